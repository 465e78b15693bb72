/- decimal.set of a text that is a number: its digits; all of it. decimal.set of a text that was read. -/
import Derived.Test.YtodihpaabkplhaaGreatDoorPds
import Derived.Test.YtodihpaabkplhaaGreatDoorPrf
import Derived.Deep.RegionWith
import Derived.BigRegion

namespace Go.Proofs.YtodihpaabkplhaaGreatDoor
open Go.RowKit

theorem ds_rest (S : ByteArray) (hS : Numeric S) (neg : Bool) (st : DS) (p j b : Nat) (hp : p ≤ S.size) (hs : DOk st j) (hj : j ≤ 2000) (D : Dec) (hr : DRest S neg st p D)
    (w : World) (post : Ending → World → Prop) (u2 u3 u8 u9 u10 u11 u12 u13 u14 u15 u16 u17 u18 u19 u20 u21 u22 u23 u24 u25 u26 u27 u28 u29 u30 u31 u32 u33 u34 u35 u36 u37 u38 u39 u40 u41 u42 u43 u44 u45 u46 u47 u48 u49 u50 u51 u52 u53 u54 u55 u56 u57 u58 u59 u60 u61 u62 u63 u64 u65 u66 u67 u68 u69 u70 u71 u72 u73 u74 u75 u76 u77 u78 u79 u80 u81 u82 u83 u84 u85 u86 u87 u88 u89 u90 u91 u92 u93 u94 u95 u96 u97 u98 u99 u100 u101 u102 u103 u104 u105 u106 u107 u108 u109 u110 u111 u112 u113 u114 u115 u116 u117 u118 u119 u120 u121 u122 u123 u124 u125 u126 u127 u128 u129 u130 u131 u132 u133 u134 u135 u136 u137 u138 u139 u140 u141 u142 u143 u144 u145 u146 u147 u148 u149 u150 u151 u152 u153 u154 u155 u156 u157 u158 u159 u160 u161 u162 u163 u164 u165 u166 u167 u168 u169 u170 u171 u172 u173 u174 u175 u176 u177 u178 u179 u180 u181 u182 u183 u184 u185 u186 u187 u188 u189 u190 u191 u192 u193 u194 u195 u196 u197 u198 u199 u200 u201 u202 u203 u204 u205 u206 u207 u208 u209 u210 u211 u212 u213 u214 u215 u216 u217 u218 u219 u220 u221 u222 u223 : Value) (hd0 : DecAt w b (st.dec neg))
    (hpost : ∀ w', DecAt w' b D → Below b w w' → post (.returned (.bool true)) w') :
    Code.wp Tryz.prog dsTail (bodyPost Tryz.prog Tryz.f58 post) ⟨#[.pointer (some ⟨b, 0, none⟩), .string S, u2, u3, .bool false, .int .i64 (p : Int), .bool st.dot, .bool st.dig, u8, u9, u10, u11, u12, u13, u14, u15, u16, u17, u18, u19, u20, u21, u22, u23, u24, u25, u26, u27, u28, u29, u30, u31, u32, u33, u34, u35, u36, u37, u38, u39, u40, u41, u42, u43, u44, u45, u46, u47, u48, u49, u50, u51, u52, u53, u54, u55, u56, u57, u58, u59, u60, u61, u62, u63, u64, u65, u66, u67, u68, u69, u70, u71, u72, u73, u74, u75, u76, u77, u78, u79, u80, u81, u82, u83, u84, u85, u86, u87, u88, u89, u90, u91, u92, u93, u94, u95, u96, u97, u98, u99, u100, u101, u102, u103, u104, u105, u106, u107, u108, u109, u110, u111, u112, u113, u114, u115, u116, u117, u118, u119, u120, u121, u122, u123, u124, u125, u126, u127, u128, u129, u130, u131, u132, u133, u134, u135, u136, u137, u138, u139, u140, u141, u142, u143, u144, u145, u146, u147, u148, u149, u150, u151, u152, u153, u154, u155, u156, u157, u158, u159, u160, u161, u162, u163, u164, u165, u166, u167, u168, u169, u170, u171, u172, u173, u174, u175, u176, u177, u178, u179, u180, u181, u182, u183, u184, u185, u186, u187, u188, u189, u190, u191, u192, u193, u194, u195, u196, u197, u198, u199, u200, u201, u202, u203, u204, u205, u206, u207, u208, u209, u210, u211, u212, u213, u214, u215, u216, u217, u218, u219, u220, u221, u222, u223], []⟩ w := by
  cases hr with
  | plain h1 h2 => exact ds_plain S hS neg st p j b hp hs hj _ h1 rfl h2 w post u2 u3 u8 u9 u10 u11 u12 u13 u14 u15 u16 u17 u18 u19 u20 u21 u22 u23 u24 u25 u26 u27 u28 u29 u30 u31 u32 u33 u34 u35 u36 u37 u38 u39 u40 u41 u42 u43 u44 u45 u46 u47 u48 u49 u50 u51 u52 u53 u54 u55 u56 u57 u58 u59 u60 u61 u62 u63 u64 u65 u66 u67 u68 u69 u70 u71 u72 u73 u74 u75 u76 u77 u78 u79 u80 u81 u82 u83 u84 u85 u86 u87 u88 u89 u90 u91 u92 u93 u94 u95 u96 u97 u98 u99 u100 u101 u102 u103 u104 u105 u106 u107 u108 u109 u110 u111 u112 u113 u114 u115 u116 u117 u118 u119 u120 u121 u122 u123 u124 u125 u126 u127 u128 u129 u130 u131 u132 u133 u134 u135 u136 u137 u138 u139 u140 u141 u142 u143 u144 u145 u146 u147 u148 u149 u150 u151 u152 u153 u154 u155 u156 u157 u158 u159 u160 u161 u162 u163 u164 u165 u166 u167 u168 u169 u170 u171 u172 u173 u174 u175 u176 u177 u178 u179 u180 u181 u182 u183 u184 u185 u186 u187 u188 u189 u190 u191 u192 u193 u194 u195 u196 u197 u198 u199 u200 u201 u202 u203 u204 u205 u206 u207 u208 u209 u210 u211 u212 u213 u214 u215 u216 u217 u218 u219 u220 u221 u222 u223 hd0 hpost
  | exp h1 h2 h3 h4 h5 =>
    by_cases h43 : ch S (p + 1) = 43
    · have e : sgnI (ch S (p + 1)) (p + 1) = p + 1 + 1 := by rw [h43]; rfl
      rw [e] at h4 h5 hpost
      exact ds_exp1 S hS neg st p j b hp hs hj _ _ h1 rfl h2 h3 h43 h4 h5 rfl w post u2 u3 u8 u9 u10 u11 u12 u13 u14 u15 u16 u17 u18 u19 u20 u21 u22 u23 u24 u25 u26 u27 u28 u29 u30 u31 u32 u33 u34 u35 u36 u37 u38 u39 u40 u41 u42 u43 u44 u45 u46 u47 u48 u49 u50 u51 u52 u53 u54 u55 u56 u57 u58 u59 u60 u61 u62 u63 u64 u65 u66 u67 u68 u69 u70 u71 u72 u73 u74 u75 u76 u77 u78 u79 u80 u81 u82 u83 u84 u85 u86 u87 u88 u89 u90 u91 u92 u93 u94 u95 u96 u97 u98 u99 u100 u101 u102 u103 u104 u105 u106 u107 u108 u109 u110 u111 u112 u113 u114 u115 u116 u117 u118 u119 u120 u121 u122 u123 u124 u125 u126 u127 u128 u129 u130 u131 u132 u133 u134 u135 u136 u137 u138 u139 u140 u141 u142 u143 u144 u145 u146 u147 u148 u149 u150 u151 u152 u153 u154 u155 u156 u157 u158 u159 u160 u161 u162 u163 u164 u165 u166 u167 u168 u169 u170 u171 u172 u173 u174 u175 u176 u177 u178 u179 u180 u181 u182 u183 u184 u185 u186 u187 u188 u189 u190 u191 u192 u193 u194 u195 u196 u197 u198 u199 u200 u201 u202 u203 u204 u205 u206 u207 u208 u209 u210 u211 u212 u213 u214 u215 u216 u217 u218 u219 u220 u221 u222 u223 hd0 hpost
    · by_cases h45 : ch S (p + 1) = 45
      · have e : sgnI (ch S (p + 1)) (p + 1) = p + 1 + 1 := by rw [h45]; rfl
        rw [e] at h4 h5 hpost
        exact ds_exp2 S hS neg st p j b hp hs hj _ _ h1 rfl h2 h3 h45 h4 h5 rfl w post u2 u3 u8 u9 u10 u11 u12 u13 u14 u15 u16 u17 u18 u19 u20 u21 u22 u23 u24 u25 u26 u27 u28 u29 u30 u31 u32 u33 u34 u35 u36 u37 u38 u39 u40 u41 u42 u43 u44 u45 u46 u47 u48 u49 u50 u51 u52 u53 u54 u55 u56 u57 u58 u59 u60 u61 u62 u63 u64 u65 u66 u67 u68 u69 u70 u71 u72 u73 u74 u75 u76 u77 u78 u79 u80 u81 u82 u83 u84 u85 u86 u87 u88 u89 u90 u91 u92 u93 u94 u95 u96 u97 u98 u99 u100 u101 u102 u103 u104 u105 u106 u107 u108 u109 u110 u111 u112 u113 u114 u115 u116 u117 u118 u119 u120 u121 u122 u123 u124 u125 u126 u127 u128 u129 u130 u131 u132 u133 u134 u135 u136 u137 u138 u139 u140 u141 u142 u143 u144 u145 u146 u147 u148 u149 u150 u151 u152 u153 u154 u155 u156 u157 u158 u159 u160 u161 u162 u163 u164 u165 u166 u167 u168 u169 u170 u171 u172 u173 u174 u175 u176 u177 u178 u179 u180 u181 u182 u183 u184 u185 u186 u187 u188 u189 u190 u191 u192 u193 u194 u195 u196 u197 u198 u199 u200 u201 u202 u203 u204 u205 u206 u207 u208 u209 u210 u211 u212 u213 u214 u215 u216 u217 u218 u219 u220 u221 u222 u223 hd0 hpost
      · have e : sgnI (ch S (p + 1)) (p + 1) = p + 1 := by unfold sgnI; rw [if_neg (by omega)]
        rw [e] at h4 h5 hpost
        exact ds_exp3 S hS neg st p j b hp hs hj _ _ h1 rfl h2 h3 h43 h45 h4 h5 rfl w post u2 u3 u8 u9 u10 u11 u12 u13 u14 u15 u16 u17 u18 u19 u20 u21 u22 u23 u24 u25 u26 u27 u28 u29 u30 u31 u32 u33 u34 u35 u36 u37 u38 u39 u40 u41 u42 u43 u44 u45 u46 u47 u48 u49 u50 u51 u52 u53 u54 u55 u56 u57 u58 u59 u60 u61 u62 u63 u64 u65 u66 u67 u68 u69 u70 u71 u72 u73 u74 u75 u76 u77 u78 u79 u80 u81 u82 u83 u84 u85 u86 u87 u88 u89 u90 u91 u92 u93 u94 u95 u96 u97 u98 u99 u100 u101 u102 u103 u104 u105 u106 u107 u108 u109 u110 u111 u112 u113 u114 u115 u116 u117 u118 u119 u120 u121 u122 u123 u124 u125 u126 u127 u128 u129 u130 u131 u132 u133 u134 u135 u136 u137 u138 u139 u140 u141 u142 u143 u144 u145 u146 u147 u148 u149 u150 u151 u152 u153 u154 u155 u156 u157 u158 u159 u160 u161 u162 u163 u164 u165 u166 u167 u168 u169 u170 u171 u172 u173 u174 u175 u176 u177 u178 u179 u180 u181 u182 u183 u184 u185 u186 u187 u188 u189 u190 u191 u192 u193 u194 u195 u196 u197 u198 u199 u200 u201 u202 u203 u204 u205 u206 u207 u208 u209 u210 u211 u212 u213 u214 u215 u216 u217 u218 u219 u220 u221 u222 u223 hd0 hpost

set_option maxRecDepth 100000 in
set_option maxHeartbeats 4000000 in
theorem ds_main (S : ByteArray) (hS : Numeric S) (neg : Bool) (i0 n b : Nat) (hn : i0 + n ≤ S.size) (hgo : ∀ j, j < n → ¬ dStop (dsAt S i0 j) (ch S (i0 + j))) (D : Dec) (hr : DRest S neg (dsAt S i0 n) (i0 + n) D)
    (w : World) (post : Ending → World → Prop) (u2 u3 u8 u9 u10 u11 u12 u13 u14 u15 u16 u17 u18 u19 u20 u21 u22 u23 u24 u25 u26 u27 u28 u29 u30 u31 u32 u33 u34 u35 u36 u37 u38 u39 u40 u41 u42 u43 u44 u45 u46 u47 u48 u49 u50 u51 u52 u53 u54 u55 u56 u57 u58 u59 u60 u61 u62 u63 u64 u65 u66 u67 u68 u69 u70 u71 u72 u73 u74 u75 u76 u77 u78 u79 u80 u81 u82 u83 u84 u85 u86 u87 u88 u89 u90 u91 u92 u93 u94 u95 u96 u97 u98 u99 u100 u101 u102 u103 u104 u105 u106 u107 u108 u109 u110 u111 u112 u113 u114 u115 u116 u117 u118 u119 u120 u121 u122 u123 u124 u125 u126 u127 u128 u129 u130 u131 u132 u133 u134 u135 u136 u137 u138 u139 u140 u141 u142 u143 u144 u145 u146 u147 u148 u149 u150 u151 u152 u153 u154 u155 u156 u157 u158 u159 u160 u161 u162 u163 u164 u165 u166 u167 u168 u169 u170 u171 u172 u173 u174 u175 u176 u177 u178 u179 u180 u181 u182 u183 u184 u185 u186 u187 u188 u189 u190 u191 u192 u193 u194 u195 u196 u197 u198 u199 u200 u201 u202 u203 u204 u205 u206 u207 u208 u209 u210 u211 u212 u213 u214 u215 u216 u217 u218 u219 u220 u221 u222 u223 : Value) (hd0 : DecAt w b (DS.init.dec neg))
    (hpost : ∀ w', DecAt w' b D → Below b w w' → post (.returned (.bool true)) w') :
    Code.wp Tryz.prog dsMain (bodyPost Tryz.prog Tryz.f58 post) ⟨#[.pointer (some ⟨b, 0, none⟩), .string S, u2, u3, .bool false, .int .i64 (i0 : Int), .bool false, .bool false, u8, u9, u10, u11, u12, u13, u14, u15, u16, u17, u18, u19, u20, u21, u22, u23, u24, u25, u26, u27, u28, u29, u30, u31, u32, u33, u34, u35, u36, u37, u38, u39, u40, u41, u42, u43, u44, u45, u46, u47, u48, u49, u50, u51, u52, u53, u54, u55, u56, u57, u58, u59, u60, u61, u62, u63, u64, u65, u66, u67, u68, u69, u70, u71, u72, u73, u74, u75, u76, u77, u78, u79, u80, u81, u82, u83, u84, u85, u86, u87, u88, u89, u90, u91, u92, u93, u94, u95, u96, u97, u98, u99, u100, u101, u102, u103, u104, u105, u106, u107, u108, u109, u110, u111, u112, u113, u114, u115, u116, u117, u118, u119, u120, u121, u122, u123, u124, u125, u126, u127, u128, u129, u130, u131, u132, u133, u134, u135, u136, u137, u138, u139, u140, u141, u142, u143, u144, u145, u146, u147, u148, u149, u150, u151, u152, u153, u154, u155, u156, u157, u158, u159, u160, u161, u162, u163, u164, u165, u166, u167, u168, u169, u170, u171, u172, u173, u174, u175, u176, u177, u178, u179, u180, u181, u182, u183, u184, u185, u186, u187, u188, u189, u190, u191, u192, u193, u194, u195, u196, u197, u198, u199, u200, u201, u202, u203, u204, u205, u206, u207, u208, u209, u210, u211, u212, u213, u214, u215, u216, u217, u218, u219, u220, u221, u222, u223], []⟩ w := by
  have HGO := Lib.hid hgo
  have HNUM := Lib.hid hS
  have HPOST := Lib.hid hpost
  have hsz := hS.1
  obtain ⟨st, hST⟩ : ∃ st, dsAt S i0 n = st := ⟨_, rfl⟩
  obtain ⟨p, hp⟩ : ∃ p, i0 + n = p := ⟨_, rfl⟩
  rw [hST, hp] at hr
  have HR := Lib.hid hr
  have hend : p = S.size ∨ ∃ hps : p < S.size, ∃ y : Nat, ((S[p]'hps).toNat : Int) = y ∧ ((y : Int) == 95) = false ∧ ((y : Int) == 46) = false ∧ 48 ≤ (y : Int) ∧ 57 < (y : Int) := by
    cases hr with
    | plain h1 h2 => exact Or.inl h2
    | exp h1 h2 h3 h4 h5 =>
      have h6 := ch_eq S p (by omega)
      refine Or.inr ⟨by omega, ch S p, by omega, ?_⟩
      unfold isE at h3
      simp only [beq_eq_false_iff_ne]
      omega
  clear hgo hr hS hpost
  conv => arg 2; whnf
  conv => arg 4; dsimp only
  go_upto_block 1 with fail
  go_cut [5, 6, 7] (fun vi vdot vdig wx => vi = .int .i64 (p : Int) ∧ vdot = .bool st.dot ∧ vdig = .bool st.dig ∧ DecAt wx b (st.dec neg) ∧ Below b w wx)
  case first =>
    have HP := Lib.hid hp
    have HST := Lib.hid hST
    clear HPOST HR hST hp
    go_wp2_with fail
    go_loopg [5, 6, 7] n (fun k vi vdot vdig wr => ∃ (j : Nat) (s : DS), k + j = n ∧ Hid (dsAt S i0 j = s) ∧ vi = .int .i64 ((i0 + j : Nat) : Int) ∧ vdot = .bool s.dot ∧ vdig = .bool s.dig ∧ DecAt wr b (s.dec neg) ∧ Below b w wr)
    case atStart => exact ⟨0, DS.init, rfl, rfl, rfl, rfl, rfl, hd0, Below.refl _ _⟩
    case round =>
      clear hd0
      obtain ⟨j, s, hkj, hs, rfl, rfl, rfl, hd, hb⟩ := hrel
      have hok := dsAt_ok S i0 n HGO.out j (by omega)
      rw [hs.out] at hok
      have o1 := hok.nd
      have o2 := hok.ndj
      have o3 := hok.d0
      have o4 := hok.d1
      clear hok
      obtain ⟨dot, dig, nd, dp, tr, D1⟩ := s
      simp only [DS.dec] at o1 o2 o3 o4 hd ⊢
      cases gk with
      | zero =>
        have hj : j = n := by omega
        have h1 := hs.out
        rw [hj, HST.out] at h1
        subst h1
        subst hj
        have hpj := HP.out
        subst hpj
        rcases hend with hend | ⟨hps, y, hy, hy1, hy2, hy3, hy4⟩
        · have hlt' : ¬ ((i0 + j : Nat) : Int) < (S.size : Int) := by omega
          clear hend
          go_wp2_with fail
          go_meet
          exact ⟨rfl, rfl, rfl, hd, hb⟩
        · have hlt' : ((i0 + j : Nat) : Int) < (S.size : Int) := by omega
          go_wp2_with fail
          go_meet
          exact ⟨rfl, rfl, rfl, hd, hb⟩
      | succ k =>
        have hlt : i0 + j < S.size := by omega
        have hg := HGO.out j (by omega)
        have hnext : dsAt S i0 (j + 1) = (⟨dot, dig, nd, dp, tr, D1⟩ : DS).step (ch S (i0 + j)) := by rw [← hs.out]; rfl
        rw [hs.out] at hg
        have hy := ch_eq S (i0 + j) hlt
        obtain ⟨y, hY⟩ : ∃ y, ch S (i0 + j) = y := ⟨_, rfl⟩
        rw [hY] at hy hg hnext
        have hyi : ((S[i0 + j]'hlt).toNat : Int) = y := by omega
        have hlt' : ((i0 + j : Nat) : Int) < (S.size : Int) := by omega
        unfold dStop digN at hg
        have c0 := hd.hnd
        have c1 := hd.hdp
        have ct := hd.htr
        simp only at c0 c1 ct
        clear hend
        by_cases h46 : y = 46
        · have e1 : dot = false := by
            cases dot with
            | false => rfl
            | true => exact absurd ⟨by omega, fun _ => rfl⟩ hg
          subst e1 h46
          have HN1 := Lib.hid hnext
          have f1 := hd.fz 801
          clear hnext hg hy hY hs
          go_wp2_with fail
          go_roundg k
          case measure => omega
          case rel => exact ⟨j + 1, _, by omega, HN1.out, by first | rfl | (congr 1; omega), rfl, rfl, hd.setDp (nd : Int) _ rfl, hb.setCell (p := ⟨b, 801, none⟩) (Nat.le_refl _) _⟩
        · have hdg : 48 ≤ y ∧ y ≤ 57 := Classical.byContradiction fun h => hg ⟨h, fun e => absurd e h46⟩
          have h95 : ((y : Int) == 95) = false := by rw [beq_eq_false_iff_ne]; omega
          have h46' : ((y : Int) == 46) = false := by rw [beq_eq_false_iff_ne]; omega
          have hy1 : (48 : Int) ≤ y := by omega
          have hy2 : (y : Int) ≤ 57 := by omega
          by_cases h0c : y = 48 ∧ nd = 0
          · obtain ⟨rfl, rfl⟩ := h0c
            have HN1 := Lib.hid hnext
            have f1 := hd.fz 801
            clear hnext hg hy hY hs h46 hdg
            go_wp2_with fail
            go_roundg k
            case measure => omega
            case rel => exact ⟨j + 1, _, by omega, HN1.out, by first | rfl | (congr 1; omega), rfl, rfl, hd.setDp (dp - 1) _ rfl, hb.setCell (p := ⟨b, 801, none⟩) (Nat.le_refl _) _⟩
          · have hz : ((y : Int) == 48) = false ∨ ((y : Int) == 48) = true ∧ ((nd : Int) == 0) = false := by
              simp only [beq_eq_false_iff_ne, beq_iff_eq]
              omega
            by_cases h800 : nd < 800
            · have h800' : (nd : Int) < 800 := by omega
              have hst : (⟨dot, dig, nd, dp, tr, D1⟩ : DS).step y = ⟨dot, true, nd + 1, dp, tr, upd D1 nd (UInt8.ofNat y)⟩ := by
                unfold DS.step
                rw [if_neg h46, if_neg h0c, if_pos h800]
              rw [hst] at hnext
              have e8 := toNat_ofNat y (by omega)
              have HN1 := Lib.hid hnext
              have f0 := hd.fz 800
              have fn := hd.fz nd
              have cd := hd.dig (i := nd) h800
              simp only at cd
              have h2 := (hd.setDig (i := nd) h800 (UInt8.ofNat y) (.int .u8 (y : Int)) (by rw [e8])).setNd (nd + 1) (.int .i64 ((nd : Int) + 1)) rfl
              clear hnext hg hy hY hs h46 hdg h0c hst e8
              rcases hz with hz | ⟨hz, hz2⟩
              all_goals (
                go_wp2_with fail
                go_region
                all_goals go_wp2_with fail
                all_goals go_roundg k
                all_goals (first
                  | omega
                  | exact ⟨j + 1, _, by omega, HN1.out, by first | rfl | (congr 1; omega), rfl, rfl, h2, ((hb.setCell (p := ⟨b, nd, none⟩) (Nat.le_refl _) _).drew).setCell (p := ⟨b, 800, none⟩) (Nat.le_refl _) _⟩))
            · have h800' : ¬ (nd : Int) < 800 := by omega
              have hst : (⟨dot, dig, nd, dp, tr, D1⟩ : DS).step y = ⟨dot, true, nd, dp, if y = 48 then tr else true, D1⟩ := by
                unfold DS.step
                rw [if_neg h46, if_neg h0c, if_neg h800]
              have hnd0 : ((nd : Int) == 0) = false := by rw [beq_eq_false_iff_ne]; omega
              rw [hst] at hnext
              clear hst
              by_cases h48 : y = 48
              · rw [if_pos h48] at hnext
                have HN1 := Lib.hid hnext
                have h48' : ((y : Int) == 48) = true := by rw [beq_iff_eq]; omega
                have h48n : ((y : Int) != 48) = false := by rw [bne, h48']; rfl
                clear hnext hg hy hY hs h46 hdg h0c h48 hz
                go_wp2_with fail
                go_roundg k
                case measure => omega
                case rel => exact ⟨j + 1, _, by omega, HN1.out, by first | rfl | (congr 1; omega), rfl, rfl, hd, hb⟩
              · rw [if_neg h48] at hnext
                have HN1 := Lib.hid hnext
                have h48' : ((y : Int) == 48) = false := by rw [beq_eq_false_iff_ne]; omega
                have h48n : ((y : Int) != 48) = true := by rw [bne, h48']; rfl
                have f3 := hd.fz 803
                clear hnext hg hy hY hs h46 hdg h0c h48 hz
                go_wp2_with fail
                go_roundg k
                case measure => omega
                case rel => exact ⟨j + 1, _, by omega, HN1.out, by first | rfl | (congr 1; omega), rfl, rfl, hd.setTr true _ rfl, hb.setCell (p := ⟨b, 803, none⟩) (Nat.le_refl _) _⟩
  case rest =>
    obtain ⟨rfl, rfl, rfl, hd1, hb1⟩ := hcut
    rename_i K hK
    refine hK _ _ ?_
    have hok := dsAt_ok S i0 n HGO.out n (Nat.le_refl _)
    rw [hST] at hok
    refine ds_rest S HNUM.out neg st p n b (by omega) hok (by omega) D HR.out _ _ _ _ _ _ _ _ _ _ _ _ _ _ _ _ _ _ _ _ _ _ _ _ _ _ _ _ _ _ _ _ _ _ _ _ _ _ _ _ _ _ _ _ _ _ _ _ _ _ _ _ _ _ _ _ _ _ _ _ _ _ _ _ _ _ _ _ _ _ _ _ _ _ _ _ _ _ _ _ _ _ _ _ _ _ _ _ _ _ _ _ _ _ _ _ _ _ _ _ _ _ _ _ _ _ _ _ _ _ _ _ _ _ _ _ _ _ _ _ _ _ _ _ _ _ _ _ _ _ _ _ _ _ _ _ _ _ _ _ _ _ _ _ _ _ _ _ _ _ _ _ _ _ _ _ _ _ _ _ _ _ _ _ _ _ _ _ _ _ _ _ _ _ _ _ _ _ _ _ _ _ _ _ _ _ _ _ _ _ _ _ _ _ _ _ _ _ _ _ _ _ _ _ _ _ _ _ _ _ _ _ _ _ _ _ _ _ _ _ hd1 ?_
    intro w2 h1 h2
    exact HPOST.out _ h1 (hb1.trans h2)
end Go.Proofs.YtodihpaabkplhaaGreatDoor

namespace Go.Proofs.YtodihpaabkplhaaGreatDoor
open Go.RowKit

set_option maxRecDepth 100000 in
set_option maxHeartbeats 4000000 in
theorem set_walk (S : ByteArray) (hS : Numeric S) (h0 : 0 < S.size) (n : Nat) (hn : sgnI (ch S 0) 0 + n ≤ S.size)
    (hgo : ∀ j, j < n → ¬ dStop (dsAt S (sgnI (ch S 0) 0) j) (ch S (sgnI (ch S 0) 0 + j))) (D : Dec)
    (hr : DRest S (sgnB (ch S 0)) (dsAt S (sgnI (ch S 0) 0) n) (sgnI (ch S 0) 0 + n) D) (b : Nat) (w : World) (hd : DecAt w b zeroDec) :
    Calls Tryz.prog 58 #[.pointer (some ⟨b, 0, none⟩), .string S] w fun e w' => e = .returned (.bool true) ∧ DecAt w' b D ∧ Below b w w' := by
  have hsz := hS.1
  have hx := ch_eq S 0 h0
  obtain ⟨x, hX⟩ : ∃ x, ch S 0 = x := ⟨_, rfl⟩
  obtain ⟨i0, hI⟩ : ∃ i0, sgnI (ch S 0) 0 = i0 := ⟨_, rfl⟩
  obtain ⟨neg, hN⟩ : ∃ neg, sgnB (ch S 0) = neg := ⟨_, rfl⟩
  rw [hI] at hn hgo hr
  rw [hN] at hr
  rw [hX] at hx hI hN
  have hxi : ((S[0]'h0).toNat : Int) = x := by omega
  have HGO := Lib.hid hgo
  have HR := Lib.hid hr
  have HNUM := Lib.hid hS
  have HNN := Lib.hid hn
  have hemp : ¬ S = ByteArray.empty := fun e => by rw [e] at h0; exact absurd h0 (by decide)
  have hsg : (x = 43 ∧ i0 = 1 ∧ neg = false) ∨ (x = 45 ∧ i0 = 1 ∧ neg = true) ∨ (((x : Int) == 43) = false ∧ ((x : Int) == 45) = false ∧ i0 = 0 ∧ neg = false) := by
    subst hI hN
    unfold sgnI sgnB
    by_cases h1 : x = 43
    · exact Or.inl ⟨h1, by rw [if_pos (by omega)], decide_eq_false (by omega)⟩
    · by_cases h2 : x = 45
      · exact Or.inr (Or.inl ⟨h2, by rw [if_pos (by omega)], decide_eq_true h2⟩)
      · refine Or.inr (Or.inr ⟨?_, ?_, by rw [if_neg (by omega)], decide_eq_false h2⟩)
        · rw [beq_eq_false_iff_ne]; omega
        · rw [beq_eq_false_iff_ne]; omega
  have cn := hd.hneg
  have ct := hd.htr
  have f2 := hd.fz 802
  have f3 := hd.fz 803
  have h1 := (hd.setNeg false (.bool false) rfl).setTr false (.bool false) rfl
  have h2 := h1.setNeg true (.bool true) rfl
  have hb : Below b w ((w.setCell ⟨b, 802, none⟩ (.bool false)).setCell ⟨b, 803, none⟩ (.bool false)) := ((Below.refl b w).setCell (p := ⟨b, 802, none⟩) (Nat.le_refl _) _).setCell (p := ⟨b, 803, none⟩) (Nat.le_refl _) _
  have hb2 : Below b w (((w.setCell ⟨b, 802, none⟩ (.bool false)).setCell ⟨b, 803, none⟩ (.bool false)).setCell ⟨b, 802, none⟩ (.bool true)) := hb.setCell (p := ⟨b, 802, none⟩) (Nat.le_refl _) _
  simp only [zeroDec] at cn ct h1 h2
  clear hgo hr hS hI hN hX hx hn
  rcases hsg with ⟨rfl, rfl, rfl⟩ | ⟨rfl, rfl, rfl⟩ | ⟨hx1, hx2, rfl, rfl⟩
  all_goals (
    go_enter Tryz.func58, Tryz.ntmps58
    go_upto_region 12 with fail
    rename_i hK
    have HK := Lib.hid hK
    clear hK
    go_wp2_with fail
    refine HK.out _ _ ?_
    (first
      | refine ds_main S HNUM.out _ _ n b HNN.out HGO.out D HR.out _ _ _ _ _ _ _ _ _ _ _ _ _ _ _ _ _ _ _ _ _ _ _ _ _ _ _ _ _ _ _ _ _ _ _ _ _ _ _ _ _ _ _ _ _ _ _ _ _ _ _ _ _ _ _ _ _ _ _ _ _ _ _ _ _ _ _ _ _ _ _ _ _ _ _ _ _ _ _ _ _ _ _ _ _ _ _ _ _ _ _ _ _ _ _ _ _ _ _ _ _ _ _ _ _ _ _ _ _ _ _ _ _ _ _ _ _ _ _ _ _ _ _ _ _ _ _ _ _ _ _ _ _ _ _ _ _ _ _ _ _ _ _ _ _ _ _ _ _ _ _ _ _ _ _ _ _ _ _ _ _ _ _ _ _ _ _ _ _ _ _ _ _ _ _ _ _ _ _ _ _ _ _ _ _ _ _ _ _ _ _ _ _ _ _ _ _ _ _ _ _ _ _ _ _ _ _ _ _ _ _ _ _ _ _ _ _ _ _ _ h1 ?_
      | refine ds_main S HNUM.out _ _ n b HNN.out HGO.out D HR.out _ _ _ _ _ _ _ _ _ _ _ _ _ _ _ _ _ _ _ _ _ _ _ _ _ _ _ _ _ _ _ _ _ _ _ _ _ _ _ _ _ _ _ _ _ _ _ _ _ _ _ _ _ _ _ _ _ _ _ _ _ _ _ _ _ _ _ _ _ _ _ _ _ _ _ _ _ _ _ _ _ _ _ _ _ _ _ _ _ _ _ _ _ _ _ _ _ _ _ _ _ _ _ _ _ _ _ _ _ _ _ _ _ _ _ _ _ _ _ _ _ _ _ _ _ _ _ _ _ _ _ _ _ _ _ _ _ _ _ _ _ _ _ _ _ _ _ _ _ _ _ _ _ _ _ _ _ _ _ _ _ _ _ _ _ _ _ _ _ _ _ _ _ _ _ _ _ _ _ _ _ _ _ _ _ _ _ _ _ _ _ _ _ _ _ _ _ _ _ _ _ _ _ _ _ _ _ _ _ _ _ _ _ _ _ _ _ _ _ _ h2 ?_)
    intro w2 k1 k2
    (first | exact ⟨rfl, k1, hb.trans k2⟩ | exact ⟨rfl, k1, hb2.trans k2⟩))
/-- set, of what readFloat read. -/
theorem set_any (S : ByteArray) (hS : Numeric S) (h0 : 0 < S.size) (i0 n : Nat) (r : RF) (hi : sgnI (ch S 0) 0 = i0) (hn : i0 + n ≤ S.size) (hgo : ∀ j, j < n → ¬ rStop (rsAt S i0 j) (ch S (i0 + j)))
    (hr : RRest S (sgnB (ch S 0)) (rsAt S i0 n) (i0 + n) r) (hok : r.ok = true) :
    ∃ D, SetOk D ∧ ∀ (b : Nat) (w : World), DecAt w b zeroDec → Calls Tryz.prog 58 #[.pointer (some ⟨b, 0, none⟩), .string (S.extract 0 r.i)] w fun e w' => e = .returned (.bool true) ∧ DecAt w' b D ∧ Below b w w' := by
  obtain ⟨h1, h2, h3, h4, D, hD⟩ := set_takes S i0 n (sgnB (ch S 0)) r h0 hn hi hgo hr hok
  have hT := hS.extract 0 r.i h2
  have hsz : (S.extract 0 r.i).size = r.i := by rw [ByteArray.size_extract]; omega
  have hc : ch (S.extract 0 r.i) 0 = ch S 0 := ch_cut S r.i 0 h2 h1
  have hok2 := dsAt_ok (S.extract 0 r.i) i0 n h4 n (Nat.le_refl _)
  have hT1 := hT.1
  refine ⟨D, hD.ok hok2 (by omega), fun b w hd => ?_⟩
  have hi' : sgnI (ch (S.extract 0 r.i) 0) 0 = i0 := by rw [hc]; exact hi
  refine set_walk (S.extract 0 r.i) hT (by omega) n (by rw [hi']; omega) (by rw [hi']; exact h4) D ?_ b w hd
  rw [hi', hc]
  exact hD
end Go.Proofs.YtodihpaabkplhaaGreatDoor
