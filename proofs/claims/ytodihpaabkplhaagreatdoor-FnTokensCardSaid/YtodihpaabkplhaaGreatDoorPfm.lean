/- floatBits: behind its two loops. -/
import Derived.Test.YtodihpaabkplhaaGreatDoorPfo
import Derived.Test.YtodihpaabkplhaaGreatDoorPri
import Derived.Test.YtodihpaabkplhaaGreatDoorPmv
namespace Go.Proofs.YtodihpaabkplhaaGreatDoor
open Go.RowKit

theorem noGoto_jumps {J : Nat → Act → World → Prop} {Q : Exit → Act → World → Prop} (e : Exit) (a : Act) (w : World) (h : Exit.noGoto Q e a w) : jumps J Q e a w := by
  cases e <;> first | exact h | exact h.elim

set_option maxRecDepth 100000 in
set_option maxHeartbeats 2000000 in
theorem fb_r1 (b : Nat) (s : Dec) (w : World) (post : Ending → World → Prop) (u2 u3 u5 u6 u7 u8 u9 u10 u11 u12 u13 u14 u15 u16 u17 u18 u19 u20 u21 u22 u23 u24 u25 u26 u27 u28 u29 u30 u31 u32 u33 u34 u35 u36 u37 u38 u39 u40 u41 u42 u43 u44 u45 u46 u47 u48 u49 u50 u51 u52 u53 u54 u55 u56 u57 u58 u59 u60 u61 u62 u63 u64 u65 u66 u67 u68 u69 u70 u71 u72 u73 u74 u75 u76 u77 u78 u79 u80 u81 u82 u83 u84 u85 u86 u87 u88 u89 u90 u91 u92 u93 u94 u95 u96 u97 u98 u99 u100 u101 u102 u103 u104 u105 u106 u107 u108 u109 u110 u111 u112 u113 u114 u115 u116 u117 u118 u119 u120 u121 u122 u123 u124 u125 u126 u127 u128 u129 u130 u131 u132 u133 u134 u135 u136 u137 u138 u139 u140 u141 u142 u143 u144 u145 u146 u147 u148 u149 u150 u151 u152 u153 u154 u155 u156 u157 u158 u159 u160 u161 u162 u163 u164 u165 u166 u167 u168 u169 u170 u171 u172 u173 u174 u175 u176 u177 u178 u179 u180 u181 u182 u183 u184 u185 u186 u187 u188 u189 u190 u191 u192 u193 u194 u195 u196 u197 u198 u199 u200 u201 u202 u203 u204 u205 u206 u207 u208 u209 u210 u211 u212 u213 u214 u215 u216 u217 u218 u219 u220 u221 u222 u223 u224 u225 u226 u227 u228 u229 u230 u231 u232 u233 u234 u235 u236 u237 u238 u239 u240 u241 u242 : Value) (hd : DecAt w b s) (i0 : w.cell? ⟨5, 0, none⟩ = some (.int .u64 52)) (i1 : w.cell? ⟨5, 1, none⟩ = some (.int .u64 11)) (i2 : w.cell? ⟨5, 2, none⟩ = some (.int .i64 (-1023)))
    (hpost : ∀ w', Below b w w' → post (.returned (.tuple #[.int .u64 (outI 0 1024 s.neg), .bool true])) w') :
    Code.wp Tryz.prog fbR1 (jumps (J0 Tryz.prog fbR0 (bodyPost Tryz.prog Tryz.f59 post)) (bodyPost Tryz.prog Tryz.f59 post)) ⟨#[.pointer (some ⟨b, 0, none⟩), .pointer (some ⟨5, 0, none⟩), u2, u3, .int .u64 0, u5, u6, u7, u8, u9, u10, u11, u12, u13, u14, u15, u16, u17, u18, u19, u20, u21, u22, u23, u24, u25, u26, u27, u28, u29, u30, u31, u32, u33, u34, u35, u36, u37, u38, u39, u40, u41, u42, u43, u44, u45, u46, u47, u48, u49, u50, u51, u52, u53, u54, u55, u56, u57, u58, u59, u60, u61, u62, u63, u64, u65, u66, u67, u68, u69, u70, u71, u72, u73, u74, u75, u76, u77, u78, u79, u80, u81, u82, u83, u84, u85, u86, u87, u88, u89, u90, u91, u92, u93, u94, u95, u96, u97, u98, u99, u100, u101, u102, u103, u104, u105, u106, u107, u108, u109, u110, u111, u112, u113, u114, u115, u116, u117, u118, u119, u120, u121, u122, u123, u124, u125, u126, u127, u128, u129, u130, u131, u132, u133, u134, u135, u136, u137, u138, u139, u140, u141, u142, u143, u144, u145, u146, u147, u148, u149, u150, u151, u152, u153, u154, u155, u156, u157, u158, u159, u160, u161, u162, u163, u164, u165, u166, u167, u168, u169, u170, u171, u172, u173, u174, u175, u176, u177, u178, u179, u180, u181, u182, u183, u184, u185, u186, u187, u188, u189, u190, u191, u192, u193, u194, u195, u196, u197, u198, u199, u200, u201, u202, u203, u204, u205, u206, u207, u208, u209, u210, u211, u212, u213, u214, u215, u216, u217, u218, u219, u220, u221, u222, u223, u224, u225, u226, u227, u228, u229, u230, u231, u232, u233, u234, u235, u236, u237, u238, u239, u240, u241, u242], []⟩ w := by
  have HPOST := Lib.hid hpost
  clear hpost
  refine wp_seq (wp_skip ?_)
  show Code.wp _ fbOver _ _ _
  conv => arg 2; whnf
  conv => arg 4; dsimp only
  go_wp2_with fail
  go_quiet (fail)
  go_wp2_with fail
  go_step3
  rename_i hK
  refine hK _ _ ?_
  exact Code.wp_mono noGoto_jumps (fb_out b 1024 0 true s (by omega) (by omega) (by omega) _ post _ _ _ _ _ _ _ _ _ _ _ _ _ _ _ _ _ _ _ _ _ _ _ _ _ _ _ _ _ _ _ _ _ _ _ _ _ _ _ _ _ _ _ _ _ _ _ _ _ _ _ _ _ _ _ _ _ _ _ _ _ _ _ _ _ _ _ _ _ _ _ _ _ _ _ _ _ _ _ _ _ _ _ _ _ _ _ _ _ _ _ _ _ _ _ _ _ _ _ _ _ _ _ _ _ _ _ _ _ _ _ _ _ _ _ _ _ _ _ _ _ _ _ _ _ _ _ _ _ _ _ _ _ _ _ _ _ _ _ _ _ _ _ _ _ _ _ _ _ _ _ _ _ _ _ _ _ _ _ _ _ _ _ _ _ _ _ _ _ _ _ _ _ _ _ _ _ _ _ _ _ _ _ _ _ _ _ _ _ _ _ _ _ _ _ _ _ _ _ _ _ _ _ _ _ _ _ _ _ _ _ _ _ _ _ _ _ _ _ _ _ _ _ _ _ _ _ _ _ _ _ _ _ _ _ _ _ (hd.drewN _) i0 i1 i2 (fun w' h => HPOST.out w' ((Below.drewN (Below.refl _ _) _).trans h)))

noncomputable def fbTail : Code := (fbCode |> seqAt 25).getD .skip
noncomputable def fbB : Code := (fbCode |> seqAt 30).getD .skip
set_option maxRecDepth 100000 in
set_option maxHeartbeats 4000000 in
theorem fb_B (s : Dec) (hs : Good s) (e : Int) (he1 : -2000 ≤ e) (he2 : e ≤ 20000) (hdp1 : -3000 ≤ s.dp) (hdp2 : s.dp ≤ 3000) : ∃ (x : Int) (ovf : Bool), U64 x ∧
    ∀ (sp : Spots) (b : Nat) (W w : World) (_ : Tab2 sp W) (_ : Below W.heap.size W w) (_ : W.heap.size ≤ b) (_ : DecAt w b s) (post : Ending → World → Prop) (u2 u3 u8 u9 u10 u11 u12 u13 u14 u15 u16 u17 u18 u19 u20 u21 u22 u23 u24 u25 u26 u27 u28 u29 u30 u31 u32 u33 u34 u35 u36 u37 u38 u39 u40 u41 u42 u43 u44 u45 u46 u47 u48 u49 u50 u51 u52 u53 u54 u55 u56 u57 u58 u59 u60 u61 u62 u63 u64 u65 u66 u67 u68 u69 u70 u71 u72 u73 u74 u75 u76 u77 u78 u79 u80 u81 u82 u83 u84 u85 u86 u87 u88 u89 u90 u91 u92 u93 u94 u95 u96 u97 u98 u99 u100 u101 u102 u103 u104 u105 u106 u107 u108 u109 u110 u111 u112 u113 u114 u115 u116 u117 u118 u119 u120 u121 u122 u123 u124 u125 u126 u127 u128 u129 u130 u131 u132 u133 u134 u135 u136 u137 u138 u139 u140 u141 u142 u143 u144 u145 u146 u147 u148 u149 u150 u151 u152 u153 u154 u155 u156 u157 u158 u159 u160 u161 u162 u163 u164 u165 u166 u167 u168 u169 u170 u171 u172 u173 u174 u175 u176 u177 u178 u179 u180 u181 u182 u183 u184 u185 u186 u187 u188 u189 u190 u191 u192 u193 u194 u195 u196 u197 u198 u199 u200 u201 u202 u203 u204 u205 u206 u207 u208 u209 u210 u211 u212 u213 u214 u215 u216 u217 u218 u219 u220 u221 u222 u223 u224 u225 u226 u227 u228 u229 u230 u231 u232 u233 u234 u235 u236 u237 u238 u239 u240 u241 u242 : Value)
      (_ : ∀ w', Below b w w' → post (.returned (.tuple #[.int .u64 x, .bool ovf])) w'),
      Code.wp Tryz.prog fbB (jumps (J1 Tryz.prog fbR0 fbR1 (bodyPost Tryz.prog Tryz.f59 post)) (bodyPost Tryz.prog Tryz.f59 post)) ⟨#[.pointer (some ⟨b, 0, none⟩), .pointer (some ⟨5, 0, none⟩), u2, u3, .int .u64 0, .bool false, .int .i64 e, .int .u64 0, u8, u9, u10, u11, u12, u13, u14, u15, u16, u17, u18, u19, u20, u21, u22, u23, u24, u25, u26, u27, u28, u29, u30, u31, u32, u33, u34, u35, u36, u37, u38, u39, u40, u41, u42, u43, u44, u45, u46, u47, u48, u49, u50, u51, u52, u53, u54, u55, u56, u57, u58, u59, u60, u61, u62, u63, u64, u65, u66, u67, u68, u69, u70, u71, u72, u73, u74, u75, u76, u77, u78, u79, u80, u81, u82, u83, u84, u85, u86, u87, u88, u89, u90, u91, u92, u93, u94, u95, u96, u97, u98, u99, u100, u101, u102, u103, u104, u105, u106, u107, u108, u109, u110, u111, u112, u113, u114, u115, u116, u117, u118, u119, u120, u121, u122, u123, u124, u125, u126, u127, u128, u129, u130, u131, u132, u133, u134, u135, u136, u137, u138, u139, u140, u141, u142, u143, u144, u145, u146, u147, u148, u149, u150, u151, u152, u153, u154, u155, u156, u157, u158, u159, u160, u161, u162, u163, u164, u165, u166, u167, u168, u169, u170, u171, u172, u173, u174, u175, u176, u177, u178, u179, u180, u181, u182, u183, u184, u185, u186, u187, u188, u189, u190, u191, u192, u193, u194, u195, u196, u197, u198, u199, u200, u201, u202, u203, u204, u205, u206, u207, u208, u209, u210, u211, u212, u213, u214, u215, u216, u217, u218, u219, u220, u221, u222, u223, u224, u225, u226, u227, u228, u229, u230, u231, u232, u233, u234, u235, u236, u237, u238, u239, u240, u241, u242], []⟩ w := by
  by_cases hB : 1024 ≤ e
  · refine ⟨_, true, u64_outI 0 1024 s.neg, ?_⟩
    intro sp b W w T hW hb hd post u2 u3 u8 u9 u10 u11 u12 u13 u14 u15 u16 u17 u18 u19 u20 u21 u22 u23 u24 u25 u26 u27 u28 u29 u30 u31 u32 u33 u34 u35 u36 u37 u38 u39 u40 u41 u42 u43 u44 u45 u46 u47 u48 u49 u50 u51 u52 u53 u54 u55 u56 u57 u58 u59 u60 u61 u62 u63 u64 u65 u66 u67 u68 u69 u70 u71 u72 u73 u74 u75 u76 u77 u78 u79 u80 u81 u82 u83 u84 u85 u86 u87 u88 u89 u90 u91 u92 u93 u94 u95 u96 u97 u98 u99 u100 u101 u102 u103 u104 u105 u106 u107 u108 u109 u110 u111 u112 u113 u114 u115 u116 u117 u118 u119 u120 u121 u122 u123 u124 u125 u126 u127 u128 u129 u130 u131 u132 u133 u134 u135 u136 u137 u138 u139 u140 u141 u142 u143 u144 u145 u146 u147 u148 u149 u150 u151 u152 u153 u154 u155 u156 u157 u158 u159 u160 u161 u162 u163 u164 u165 u166 u167 u168 u169 u170 u171 u172 u173 u174 u175 u176 u177 u178 u179 u180 u181 u182 u183 u184 u185 u186 u187 u188 u189 u190 u191 u192 u193 u194 u195 u196 u197 u198 u199 u200 u201 u202 u203 u204 u205 u206 u207 u208 u209 u210 u211 u212 u213 u214 u215 u216 u217 u218 u219 u220 u221 u222 u223 u224 u225 u226 u227 u228 u229 u230 u231 u232 u233 u234 u235 u236 u237 u238 u239 u240 u241 u242 hpost
    have T1 := T.below hW
    have i0 := T1.inf0
    have i1 := T1.inf1
    have i2 := T1.inf2
    have HPOST := Lib.hid hpost
    have hB1 : decide (2047 ≤ e + 1023) = true := decide_eq_true (by omega)
    clear hpost T1
    conv => arg 2; whnf
    conv => arg 4; dsimp only
    go_wp2_with fail
    go_quiet (fail)
    go_wp2_with fail
    go_step3
    refine Or.inr ⟨rfl, ?_⟩
    exact fb_r1 b s _ post _ _ _ _ _ _ _ _ _ _ _ _ _ _ _ _ _ _ _ _ _ _ _ _ _ _ _ _ _ _ _ _ _ _ _ _ _ _ _ _ _ _ _ _ _ _ _ _ _ _ _ _ _ _ _ _ _ _ _ _ _ _ _ _ _ _ _ _ _ _ _ _ _ _ _ _ _ _ _ _ _ _ _ _ _ _ _ _ _ _ _ _ _ _ _ _ _ _ _ _ _ _ _ _ _ _ _ _ _ _ _ _ _ _ _ _ _ _ _ _ _ _ _ _ _ _ _ _ _ _ _ _ _ _ _ _ _ _ _ _ _ _ _ _ _ _ _ _ _ _ _ _ _ _ _ _ _ _ _ _ _ _ _ _ _ _ _ _ _ _ _ _ _ _ _ _ _ _ _ _ _ _ _ _ _ _ _ _ _ _ _ _ _ _ _ _ _ _ _ _ _ _ _ _ _ _ _ _ _ _ _ _ _ _ _ _ _ _ _ _ _ _ _ _ _ _ _ _ _ _ _ _ _ _ _ _ _ _ _ _ (hd.drewN _) i0 i1 i2 (fun w' h => HPOST.out w' ((Below.drewN (Below.refl _ _) _).trans h))
  · have hB1 : decide (2047 ≤ e + 1023) = false := decide_eq_false (by omega)
    obtain ⟨g1, g2, g3⟩ := shiftD_good hs 53
    obtain ⟨s3, hs3⟩ : ∃ s3, shiftD s 53 = s3 := ⟨_, rfl⟩
    rw [hs3] at g1 g2 g3
    obtain ⟨m, hm, hri⟩ := rounded_any s3 g1.dig (by omega) (by omega)
    have key : ∃ (x : Int) (ovf : Bool), U64 x ∧ ((m = 9007199254740992 ∧ 1023 ≤ e ∧ x = outI 0 1024 s3.neg ∧ ovf = true) ∨ (m = 9007199254740992 ∧ ¬ 1023 ≤ e ∧ x = outI (4503599627370496 : Nat) (e + 1) s3.neg ∧ ovf = false) ∨
        (m ≠ 9007199254740992 ∧ ∃ z : Bool, (bits BinOp.and IntKind.u64 (m : Int) 4503599627370496 == 0) = z ∧ x = outI (m : Int) (if z then -1023 else e) s3.neg ∧ ovf = false)) := by
      by_cases h1 : m = 9007199254740992
      · by_cases h2 : 1023 ≤ e
        · exact ⟨_, _, u64_outI _ _ _, Or.inl ⟨h1, h2, rfl, rfl⟩⟩
        · exact ⟨_, _, u64_outI _ _ _, Or.inr (Or.inl ⟨h1, h2, rfl, rfl⟩)⟩
      · exact ⟨_, _, u64_outI _ _ _, Or.inr (Or.inr ⟨h1, _, rfl, rfl, rfl⟩)⟩
    obtain ⟨x, ovf, hx, hcase⟩ := key
    refine ⟨x, ovf, hx, ?_⟩
    intro sp b W w T hW hb hd post u2 u3 u8 u9 u10 u11 u12 u13 u14 u15 u16 u17 u18 u19 u20 u21 u22 u23 u24 u25 u26 u27 u28 u29 u30 u31 u32 u33 u34 u35 u36 u37 u38 u39 u40 u41 u42 u43 u44 u45 u46 u47 u48 u49 u50 u51 u52 u53 u54 u55 u56 u57 u58 u59 u60 u61 u62 u63 u64 u65 u66 u67 u68 u69 u70 u71 u72 u73 u74 u75 u76 u77 u78 u79 u80 u81 u82 u83 u84 u85 u86 u87 u88 u89 u90 u91 u92 u93 u94 u95 u96 u97 u98 u99 u100 u101 u102 u103 u104 u105 u106 u107 u108 u109 u110 u111 u112 u113 u114 u115 u116 u117 u118 u119 u120 u121 u122 u123 u124 u125 u126 u127 u128 u129 u130 u131 u132 u133 u134 u135 u136 u137 u138 u139 u140 u141 u142 u143 u144 u145 u146 u147 u148 u149 u150 u151 u152 u153 u154 u155 u156 u157 u158 u159 u160 u161 u162 u163 u164 u165 u166 u167 u168 u169 u170 u171 u172 u173 u174 u175 u176 u177 u178 u179 u180 u181 u182 u183 u184 u185 u186 u187 u188 u189 u190 u191 u192 u193 u194 u195 u196 u197 u198 u199 u200 u201 u202 u203 u204 u205 u206 u207 u208 u209 u210 u211 u212 u213 u214 u215 u216 u217 u218 u219 u220 u221 u222 u223 u224 u225 u226 u227 u228 u229 u230 u231 u232 u233 u234 u235 u236 u237 u238 u239 u240 u241 u242 hpost
    have T1 := T.below hW
    have i0 := T1.inf0
    have i1 := T1.inf1
    have i2 := T1.inf2
    have HPOST := Lib.hid hpost
    have HRI := Lib.hid hri
    have hsh := fun w (hd : DecAt w b s) (hW : Below W.heap.size W w) => shift_any sp.cb sp.co b 53 s W w hd hs T.tabs hW hb (by omega) (by omega) (by omega) (by omega)
    rw [hs3] at hsh
    have HT := Lib.hid T
    have HW := Lib.hid hW
    have HSH := Lib.hid hsh
    have hm0 : (0 : Int) ≤ (m : Int) := by omega
    clear hpost T1 hri hx hs3 hsh T hW hs
    conv => arg 2; whnf
    conv => arg 4; dsimp only
    go_wp2_with fail
    go_quiet (fail)
    go_wp2_with fail
    refine (HSH.out _ (hd.drewN _) (Below.drewN HW.out _)).mono ?_
    rintro en w2 ⟨rfl, hd2, hb2⟩
    have T2 := HT.out.below ((Below.drewN HW.out nq).trans (hb2.mono hb))
    have j0 := T2.inf0
    have j1 := T2.inf1
    have j2 := T2.inf2
    have hb3 : Below b w w2 := (Below.drewN (Below.refl _ _) nq).trans hb2
    clear i0 i1 i2 hd T2
    go_wp2_with fail
    refine (HRI.out b w2 hd2).mono ?_
    rintro en w3 ⟨rfl, rfl⟩
    rcases hcase with ⟨rfl, h2, rfl, rfl⟩ | ⟨rfl, h2, rfl, rfl⟩ | ⟨h1, z, hz, rfl, rfl⟩
    · have hC1 : decide (2047 ≤ e + 1 + 1023) = true := decide_eq_true (by omega)
      go_wp2_with fail
      go_quiet (fail)
      go_wp2_with fail
      go_step3
      refine Or.inr ⟨rfl, ?_⟩
      exact fb_r1 b s3 _ post _ _ _ _ _ _ _ _ _ _ _ _ _ _ _ _ _ _ _ _ _ _ _ _ _ _ _ _ _ _ _ _ _ _ _ _ _ _ _ _ _ _ _ _ _ _ _ _ _ _ _ _ _ _ _ _ _ _ _ _ _ _ _ _ _ _ _ _ _ _ _ _ _ _ _ _ _ _ _ _ _ _ _ _ _ _ _ _ _ _ _ _ _ _ _ _ _ _ _ _ _ _ _ _ _ _ _ _ _ _ _ _ _ _ _ _ _ _ _ _ _ _ _ _ _ _ _ _ _ _ _ _ _ _ _ _ _ _ _ _ _ _ _ _ _ _ _ _ _ _ _ _ _ _ _ _ _ _ _ _ _ _ _ _ _ _ _ _ _ _ _ _ _ _ _ _ _ _ _ _ _ _ _ _ _ _ _ _ _ _ _ _ _ _ _ _ _ _ _ _ _ _ _ _ _ _ _ _ _ _ _ _ _ _ _ _ _ _ _ _ _ _ _ _ _ _ _ _ _ _ _ _ _ _ _ _ _ _ _ _ (hd2.drewN _) j0 j1 j2 (fun w' h => HPOST.out w' (hb3.trans ((Below.drewN (Below.refl _ _) _).trans h)))
    · have hC1 : decide (2047 ≤ e + 1 + 1023) = false := decide_eq_false (by omega)
      go_wp2_with fail
      go_quiet (fail)
      go_wp2_with fail
      go_step3
      refine Or.inl ⟨rfl, ?_⟩
      exact fb_r0 b (e + 1) 4503599627370496 false s3 (by omega) (by omega) (by omega) _ post _ _ _ _ _ _ _ _ _ _ _ _ _ _ _ _ _ _ _ _ _ _ _ _ _ _ _ _ _ _ _ _ _ _ _ _ _ _ _ _ _ _ _ _ _ _ _ _ _ _ _ _ _ _ _ _ _ _ _ _ _ _ _ _ _ _ _ _ _ _ _ _ _ _ _ _ _ _ _ _ _ _ _ _ _ _ _ _ _ _ _ _ _ _ _ _ _ _ _ _ _ _ _ _ _ _ _ _ _ _ _ _ _ _ _ _ _ _ _ _ _ _ _ _ _ _ _ _ _ _ _ _ _ _ _ _ _ _ _ _ _ _ _ _ _ _ _ _ _ _ _ _ _ _ _ _ _ _ _ _ _ _ _ _ _ _ _ _ _ _ _ _ _ _ _ _ _ _ _ _ _ _ _ _ _ _ _ _ _ _ _ _ _ _ _ _ _ _ _ _ _ _ _ _ _ _ _ _ _ _ _ _ _ _ _ _ _ _ _ _ _ _ _ _ _ _ _ _ _ _ _ _ _ _ _ _ _ (hd2.drewN _) j0 j1 j2 (fun w' h => HPOST.out w' (hb3.trans ((Below.drewN (Below.refl _ _) _).trans h)))
    · have hC1 : ((m : Int) == 9007199254740992) = false := by rw [beq_eq_false_iff_ne]; omega
      cases z
      · go_wp2_with fail
        go_step3
        refine Or.inl ⟨rfl, ?_⟩
        exact fb_r0 b e m false s3 (by omega) (by omega) hm _ post _ _ _ _ _ _ _ _ _ _ _ _ _ _ _ _ _ _ _ _ _ _ _ _ _ _ _ _ _ _ _ _ _ _ _ _ _ _ _ _ _ _ _ _ _ _ _ _ _ _ _ _ _ _ _ _ _ _ _ _ _ _ _ _ _ _ _ _ _ _ _ _ _ _ _ _ _ _ _ _ _ _ _ _ _ _ _ _ _ _ _ _ _ _ _ _ _ _ _ _ _ _ _ _ _ _ _ _ _ _ _ _ _ _ _ _ _ _ _ _ _ _ _ _ _ _ _ _ _ _ _ _ _ _ _ _ _ _ _ _ _ _ _ _ _ _ _ _ _ _ _ _ _ _ _ _ _ _ _ _ _ _ _ _ _ _ _ _ _ _ _ _ _ _ _ _ _ _ _ _ _ _ _ _ _ _ _ _ _ _ _ _ _ _ _ _ _ _ _ _ _ _ _ _ _ _ _ _ _ _ _ _ _ _ _ _ _ _ _ _ _ _ _ _ _ _ _ _ _ _ _ _ _ _ _ _ _ hd2 j0 j1 j2 (fun w' h => HPOST.out w' (hb3.trans h))
      · go_wp2_with fail
        go_step3
        refine Or.inl ⟨rfl, ?_⟩
        exact fb_r0 b (-1023) m false s3 (by omega) (by omega) hm _ post _ _ _ _ _ _ _ _ _ _ _ _ _ _ _ _ _ _ _ _ _ _ _ _ _ _ _ _ _ _ _ _ _ _ _ _ _ _ _ _ _ _ _ _ _ _ _ _ _ _ _ _ _ _ _ _ _ _ _ _ _ _ _ _ _ _ _ _ _ _ _ _ _ _ _ _ _ _ _ _ _ _ _ _ _ _ _ _ _ _ _ _ _ _ _ _ _ _ _ _ _ _ _ _ _ _ _ _ _ _ _ _ _ _ _ _ _ _ _ _ _ _ _ _ _ _ _ _ _ _ _ _ _ _ _ _ _ _ _ _ _ _ _ _ _ _ _ _ _ _ _ _ _ _ _ _ _ _ _ _ _ _ _ _ _ _ _ _ _ _ _ _ _ _ _ _ _ _ _ _ _ _ _ _ _ _ _ _ _ _ _ _ _ _ _ _ _ _ _ _ _ _ _ _ _ _ _ _ _ _ _ _ _ _ _ _ _ _ _ _ _ _ _ _ _ _ _ _ _ _ _ _ _ _ _ _ _ hd2 j0 j1 j2 (fun w' h => HPOST.out w' (hb3.trans h))

set_option maxRecDepth 100000 in
set_option maxHeartbeats 4000000 in
theorem fb_tail (s : Dec) (hs : Good s) (e : Int) (he1 : -1950 ≤ e) (he2 : e ≤ 19000) (hdp1 : -1500 ≤ s.dp) (hdp2 : s.dp ≤ 1500) : ∃ (x : Int) (ovf : Bool), U64 x ∧
    ∀ (sp : Spots) (b : Nat) (W w : World) (_ : Tab2 sp W) (_ : Below W.heap.size W w) (_ : W.heap.size ≤ b) (_ : DecAt w b s) (post : Ending → World → Prop) (u2 u3 u8 u9 u10 u11 u12 u13 u14 u15 u16 u17 u18 u19 u20 u21 u22 u23 u24 u25 u26 u27 u28 u29 u30 u31 u32 u33 u34 u35 u36 u37 u38 u39 u40 u41 u42 u43 u44 u45 u46 u47 u48 u49 u50 u51 u52 u53 u54 u55 u56 u57 u58 u59 u60 u61 u62 u63 u64 u65 u66 u67 u68 u69 u70 u71 u72 u73 u74 u75 u76 u77 u78 u79 u80 u81 u82 u83 u84 u85 u86 u87 u88 u89 u90 u91 u92 u93 u94 u95 u96 u97 u98 u99 u100 u101 u102 u103 u104 u105 u106 u107 u108 u109 u110 u111 u112 u113 u114 u115 u116 u117 u118 u119 u120 u121 u122 u123 u124 u125 u126 u127 u128 u129 u130 u131 u132 u133 u134 u135 u136 u137 u138 u139 u140 u141 u142 u143 u144 u145 u146 u147 u148 u149 u150 u151 u152 u153 u154 u155 u156 u157 u158 u159 u160 u161 u162 u163 u164 u165 u166 u167 u168 u169 u170 u171 u172 u173 u174 u175 u176 u177 u178 u179 u180 u181 u182 u183 u184 u185 u186 u187 u188 u189 u190 u191 u192 u193 u194 u195 u196 u197 u198 u199 u200 u201 u202 u203 u204 u205 u206 u207 u208 u209 u210 u211 u212 u213 u214 u215 u216 u217 u218 u219 u220 u221 u222 u223 u224 u225 u226 u227 u228 u229 u230 u231 u232 u233 u234 u235 u236 u237 u238 u239 u240 u241 u242 : Value)
      (_ : ∀ w', Below b w w' → post (.returned (.tuple #[.int .u64 x, .bool ovf])) w'),
      Code.wp Tryz.prog fbTail (jumps (J1 Tryz.prog fbR0 fbR1 (bodyPost Tryz.prog Tryz.f59 post)) (bodyPost Tryz.prog Tryz.f59 post)) ⟨#[.pointer (some ⟨b, 0, none⟩), .pointer (some ⟨5, 0, none⟩), u2, u3, .int .u64 0, .bool false, .int .i64 e, .int .u64 0, u8, u9, u10, u11, u12, u13, u14, u15, u16, u17, u18, u19, u20, u21, u22, u23, u24, u25, u26, u27, u28, u29, u30, u31, u32, u33, u34, u35, u36, u37, u38, u39, u40, u41, u42, u43, u44, u45, u46, u47, u48, u49, u50, u51, u52, u53, u54, u55, u56, u57, u58, u59, u60, u61, u62, u63, u64, u65, u66, u67, u68, u69, u70, u71, u72, u73, u74, u75, u76, u77, u78, u79, u80, u81, u82, u83, u84, u85, u86, u87, u88, u89, u90, u91, u92, u93, u94, u95, u96, u97, u98, u99, u100, u101, u102, u103, u104, u105, u106, u107, u108, u109, u110, u111, u112, u113, u114, u115, u116, u117, u118, u119, u120, u121, u122, u123, u124, u125, u126, u127, u128, u129, u130, u131, u132, u133, u134, u135, u136, u137, u138, u139, u140, u141, u142, u143, u144, u145, u146, u147, u148, u149, u150, u151, u152, u153, u154, u155, u156, u157, u158, u159, u160, u161, u162, u163, u164, u165, u166, u167, u168, u169, u170, u171, u172, u173, u174, u175, u176, u177, u178, u179, u180, u181, u182, u183, u184, u185, u186, u187, u188, u189, u190, u191, u192, u193, u194, u195, u196, u197, u198, u199, u200, u201, u202, u203, u204, u205, u206, u207, u208, u209, u210, u211, u212, u213, u214, u215, u216, u217, u218, u219, u220, u221, u222, u223, u224, u225, u226, u227, u228, u229, u230, u231, u232, u233, u234, u235, u236, u237, u238, u239, u240, u241, u242], []⟩ w := by
  by_cases hA : e - 1 < -1022
  · obtain ⟨g1, g2, g3⟩ := shiftD_good hs (e + 1021)
    obtain ⟨x, ovf, hx, hB⟩ := fb_B (shiftD s (e + 1021)) g1 (-1022) (by omega) (by omega) (by omega) (by omega)
    refine ⟨x, ovf, hx, ?_⟩
    intro sp b W w T hW hb hd post u2 u3 u8 u9 u10 u11 u12 u13 u14 u15 u16 u17 u18 u19 u20 u21 u22 u23 u24 u25 u26 u27 u28 u29 u30 u31 u32 u33 u34 u35 u36 u37 u38 u39 u40 u41 u42 u43 u44 u45 u46 u47 u48 u49 u50 u51 u52 u53 u54 u55 u56 u57 u58 u59 u60 u61 u62 u63 u64 u65 u66 u67 u68 u69 u70 u71 u72 u73 u74 u75 u76 u77 u78 u79 u80 u81 u82 u83 u84 u85 u86 u87 u88 u89 u90 u91 u92 u93 u94 u95 u96 u97 u98 u99 u100 u101 u102 u103 u104 u105 u106 u107 u108 u109 u110 u111 u112 u113 u114 u115 u116 u117 u118 u119 u120 u121 u122 u123 u124 u125 u126 u127 u128 u129 u130 u131 u132 u133 u134 u135 u136 u137 u138 u139 u140 u141 u142 u143 u144 u145 u146 u147 u148 u149 u150 u151 u152 u153 u154 u155 u156 u157 u158 u159 u160 u161 u162 u163 u164 u165 u166 u167 u168 u169 u170 u171 u172 u173 u174 u175 u176 u177 u178 u179 u180 u181 u182 u183 u184 u185 u186 u187 u188 u189 u190 u191 u192 u193 u194 u195 u196 u197 u198 u199 u200 u201 u202 u203 u204 u205 u206 u207 u208 u209 u210 u211 u212 u213 u214 u215 u216 u217 u218 u219 u220 u221 u222 u223 u224 u225 u226 u227 u228 u229 u230 u231 u232 u233 u234 u235 u236 u237 u238 u239 u240 u241 u242 hpost
    have T1 := T.below hW
    have i2 := T1.inf2
    have HPOST := Lib.hid hpost
    have HB := Lib.hid hB
    have hsh := fun k (k1 : -2000 ≤ k) (k2 : k ≤ 2000) w (hd : DecAt w b s) (hW : Below W.heap.size W w) => shift_any sp.cb sp.co b k s W w hd hs T.tabs hW hb k1 k2 (by omega) (by omega)
    have HT := Lib.hid T
    have HW := Lib.hid hW
    have HSH := Lib.hid hsh
    have HD := Lib.hid hd
    clear hpost T1 hx hsh T hW hs hB g1 g2 g3 hd
    conv => arg 2; whnf
    conv => arg 4; dsimp only
    go_upto_region 26 with fail
    rename_i K0 hK0 K1 hK1
    have HK := Lib.hid hK0
    clear hK0
    go_wp2_with fail
    refine (HSH.out _ (by omega) (by omega) _ HD.out HW.out).mono ?_
    rintro en w2 ⟨rfl, hd2, hb2⟩
    go_wp2_with fail
    rw [show e - 1 + (-1022 - (e - 1)) = -1022 by omega]
    rw [show -(-1022 - (e - 1)) = e + 1021 by omega] at hd2
    refine HK.out _ _ ?_
    exact HB.out sp b W _ HT.out (HW.out.trans (hb2.mono hb)) hb hd2 post _ _ _ _ _ _ _ _ _ _ _ _ _ _ _ _ _ _ _ _ _ _ _ _ _ _ _ _ _ _ _ _ _ _ _ _ _ _ _ _ _ _ _ _ _ _ _ _ _ _ _ _ _ _ _ _ _ _ _ _ _ _ _ _ _ _ _ _ _ _ _ _ _ _ _ _ _ _ _ _ _ _ _ _ _ _ _ _ _ _ _ _ _ _ _ _ _ _ _ _ _ _ _ _ _ _ _ _ _ _ _ _ _ _ _ _ _ _ _ _ _ _ _ _ _ _ _ _ _ _ _ _ _ _ _ _ _ _ _ _ _ _ _ _ _ _ _ _ _ _ _ _ _ _ _ _ _ _ _ _ _ _ _ _ _ _ _ _ _ _ _ _ _ _ _ _ _ _ _ _ _ _ _ _ _ _ _ _ _ _ _ _ _ _ _ _ _ _ _ _ _ _ _ _ _ _ _ _ _ _ _ _ _ _ _ _ _ _ _ _ _ _ _ _ _ _ _ _ _ _ _ _ _ _ _ _ _ (fun w' h => HPOST.out w' (hb2.trans h))
  · obtain ⟨x, ovf, hx, hB⟩ := fb_B s hs (e - 1) (by omega) (by omega) (by omega) (by omega)
    refine ⟨x, ovf, hx, ?_⟩
    intro sp b W w T hW hb hd post u2 u3 u8 u9 u10 u11 u12 u13 u14 u15 u16 u17 u18 u19 u20 u21 u22 u23 u24 u25 u26 u27 u28 u29 u30 u31 u32 u33 u34 u35 u36 u37 u38 u39 u40 u41 u42 u43 u44 u45 u46 u47 u48 u49 u50 u51 u52 u53 u54 u55 u56 u57 u58 u59 u60 u61 u62 u63 u64 u65 u66 u67 u68 u69 u70 u71 u72 u73 u74 u75 u76 u77 u78 u79 u80 u81 u82 u83 u84 u85 u86 u87 u88 u89 u90 u91 u92 u93 u94 u95 u96 u97 u98 u99 u100 u101 u102 u103 u104 u105 u106 u107 u108 u109 u110 u111 u112 u113 u114 u115 u116 u117 u118 u119 u120 u121 u122 u123 u124 u125 u126 u127 u128 u129 u130 u131 u132 u133 u134 u135 u136 u137 u138 u139 u140 u141 u142 u143 u144 u145 u146 u147 u148 u149 u150 u151 u152 u153 u154 u155 u156 u157 u158 u159 u160 u161 u162 u163 u164 u165 u166 u167 u168 u169 u170 u171 u172 u173 u174 u175 u176 u177 u178 u179 u180 u181 u182 u183 u184 u185 u186 u187 u188 u189 u190 u191 u192 u193 u194 u195 u196 u197 u198 u199 u200 u201 u202 u203 u204 u205 u206 u207 u208 u209 u210 u211 u212 u213 u214 u215 u216 u217 u218 u219 u220 u221 u222 u223 u224 u225 u226 u227 u228 u229 u230 u231 u232 u233 u234 u235 u236 u237 u238 u239 u240 u241 u242 hpost
    have T1 := T.below hW
    have i2 := T1.inf2
    have HPOST := Lib.hid hpost
    have HB := Lib.hid hB
    have HT := Lib.hid T
    have HW := Lib.hid hW
    have HD := Lib.hid hd
    clear hpost T1 hx T hW hs hB hd
    conv => arg 2; whnf
    conv => arg 4; dsimp only
    go_upto_region 26 with fail
    rename_i K0 hK0 K1 hK1
    have HK := Lib.hid hK0
    clear hK0
    go_wp2_with fail
    refine HK.out _ _ ?_
    exact HB.out sp b W _ HT.out HW.out hb HD.out post _ _ _ _ _ _ _ _ _ _ _ _ _ _ _ _ _ _ _ _ _ _ _ _ _ _ _ _ _ _ _ _ _ _ _ _ _ _ _ _ _ _ _ _ _ _ _ _ _ _ _ _ _ _ _ _ _ _ _ _ _ _ _ _ _ _ _ _ _ _ _ _ _ _ _ _ _ _ _ _ _ _ _ _ _ _ _ _ _ _ _ _ _ _ _ _ _ _ _ _ _ _ _ _ _ _ _ _ _ _ _ _ _ _ _ _ _ _ _ _ _ _ _ _ _ _ _ _ _ _ _ _ _ _ _ _ _ _ _ _ _ _ _ _ _ _ _ _ _ _ _ _ _ _ _ _ _ _ _ _ _ _ _ _ _ _ _ _ _ _ _ _ _ _ _ _ _ _ _ _ _ _ _ _ _ _ _ _ _ _ _ _ _ _ _ _ _ _ _ _ _ _ _ _ _ _ _ _ _ _ _ _ _ _ _ _ _ _ _ _ _ _ _ _ _ _ _ _ _ _ _ _ _ _ _ _ _ (fun w' h => HPOST.out w' h)
end Go.Proofs.YtodihpaabkplhaaGreatDoor
