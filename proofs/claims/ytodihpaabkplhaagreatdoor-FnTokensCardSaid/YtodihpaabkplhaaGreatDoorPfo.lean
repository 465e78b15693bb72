/- floatBits: its end. -/
import Derived.Test.YtodihpaabkplhaaGreatDoorPtb
import Derived.Test.YtodihpaabkplhaaGreatDoorCod
import Derived.Test.YtodihpaabkplhaaGreatDoorPgo
import Derived.Deep.DeepCutAuto
import Derived.Deep.CutBlock
import Derived.WalkMore
namespace Go.Proofs.YtodihpaabkplhaaGreatDoor
open Go.RowKit

noncomputable def fbCode : Code := (Tryz.f59.body).getD .skip
noncomputable def fbScope : Code := match fbCode with | .seq _ (.scope c) => c | c => c
noncomputable def fbOut : Code := (fbCode |> seqAt 42).getD .skip
noncomputable def fbOver : Code := (fbCode |> seqAt 39).getD .skip

/-- The bits of a mantissa, an exponent and a sign. -/
def outI (mant exp : Int) : Bool → Int
  | false => bits BinOp.or IntKind.u64 (bits BinOp.and IntKind.u64 mant 4503599627370495) (IntKind.u64.wrap (IntKind.u64.wrap (bits BinOp.and IntKind.i64 (exp + 1023) 2047) * 4503599627370496))
  | true => bits BinOp.or IntKind.u64 (bits BinOp.or IntKind.u64 (bits BinOp.and IntKind.u64 mant 4503599627370495) (IntKind.u64.wrap (IntKind.u64.wrap (bits BinOp.and IntKind.i64 (exp + 1023) 2047) * 4503599627370496))) 9223372036854775808
theorem u64_outI (mant exp : Int) (neg : Bool) : U64 (outI mant exp neg) := by
  cases neg <;> (unfold outI; exact u64_bits _ _ _)

set_option maxRecDepth 100000 in
set_option maxHeartbeats 2000000 in
theorem fb_out (b : Nat) (exp : Int) (mant : Nat) (ovf : Bool) (s : Dec) (he1 : -100000 ≤ exp) (he2 : exp ≤ 100000) (hm : mant < 18446744073709551616)
    (w : World) (post : Ending → World → Prop) (u2 u3 u8 u9 u10 u11 u12 u13 u14 u15 u16 u17 u18 u19 u20 u21 u22 u23 u24 u25 u26 u27 u28 u29 u30 u31 u32 u33 u34 u35 u36 u37 u38 u39 u40 u41 u42 u43 u44 u45 u46 u47 u48 u49 u50 u51 u52 u53 u54 u55 u56 u57 u58 u59 u60 u61 u62 u63 u64 u65 u66 u67 u68 u69 u70 u71 u72 u73 u74 u75 u76 u77 u78 u79 u80 u81 u82 u83 u84 u85 u86 u87 u88 u89 u90 u91 u92 u93 u94 u95 u96 u97 u98 u99 u100 u101 u102 u103 u104 u105 u106 u107 u108 u109 u110 u111 u112 u113 u114 u115 u116 u117 u118 u119 u120 u121 u122 u123 u124 u125 u126 u127 u128 u129 u130 u131 u132 u133 u134 u135 u136 u137 u138 u139 u140 u141 u142 u143 u144 u145 u146 u147 u148 u149 u150 u151 u152 u153 u154 u155 u156 u157 u158 u159 u160 u161 u162 u163 u164 u165 u166 u167 u168 u169 u170 u171 u172 u173 u174 u175 u176 u177 u178 u179 u180 u181 u182 u183 u184 u185 u186 u187 u188 u189 u190 u191 u192 u193 u194 u195 u196 u197 u198 u199 u200 u201 u202 u203 u204 u205 u206 u207 u208 u209 u210 u211 u212 u213 u214 u215 u216 u217 u218 u219 u220 u221 u222 u223 u224 u225 u226 u227 u228 u229 u230 u231 u232 u233 u234 u235 u236 u237 u238 u239 u240 u241 u242 : Value) (hd : DecAt w b s)
    (i0 : w.cell? ⟨5, 0, none⟩ = some (.int .u64 52)) (i1 : w.cell? ⟨5, 1, none⟩ = some (.int .u64 11)) (i2 : w.cell? ⟨5, 2, none⟩ = some (.int .i64 (-1023)))
    (hpost : ∀ w', Below b w w' → post (.returned (.tuple #[.int .u64 (outI (mant : Int) exp s.neg), .bool ovf])) w') :
    Code.wp Tryz.prog fbOut (Exit.noGoto (bodyPost Tryz.prog Tryz.f59 post)) ⟨#[.pointer (some ⟨b, 0, none⟩), .pointer (some ⟨5, 0, none⟩), u2, u3, .int .u64 0, .bool ovf, .int .i64 exp, .int .u64 (mant : Int), u8, u9, u10, u11, u12, u13, u14, u15, u16, u17, u18, u19, u20, u21, u22, u23, u24, u25, u26, u27, u28, u29, u30, u31, u32, u33, u34, u35, u36, u37, u38, u39, u40, u41, u42, u43, u44, u45, u46, u47, u48, u49, u50, u51, u52, u53, u54, u55, u56, u57, u58, u59, u60, u61, u62, u63, u64, u65, u66, u67, u68, u69, u70, u71, u72, u73, u74, u75, u76, u77, u78, u79, u80, u81, u82, u83, u84, u85, u86, u87, u88, u89, u90, u91, u92, u93, u94, u95, u96, u97, u98, u99, u100, u101, u102, u103, u104, u105, u106, u107, u108, u109, u110, u111, u112, u113, u114, u115, u116, u117, u118, u119, u120, u121, u122, u123, u124, u125, u126, u127, u128, u129, u130, u131, u132, u133, u134, u135, u136, u137, u138, u139, u140, u141, u142, u143, u144, u145, u146, u147, u148, u149, u150, u151, u152, u153, u154, u155, u156, u157, u158, u159, u160, u161, u162, u163, u164, u165, u166, u167, u168, u169, u170, u171, u172, u173, u174, u175, u176, u177, u178, u179, u180, u181, u182, u183, u184, u185, u186, u187, u188, u189, u190, u191, u192, u193, u194, u195, u196, u197, u198, u199, u200, u201, u202, u203, u204, u205, u206, u207, u208, u209, u210, u211, u212, u213, u214, u215, u216, u217, u218, u219, u220, u221, u222, u223, u224, u225, u226, u227, u228, u229, u230, u231, u232, u233, u234, u235, u236, u237, u238, u239, u240, u241, u242], []⟩ w := by
  have HPOST := Lib.hid hpost
  clear hpost
  have cn := hd.hneg
  have hm0 : (0 : Int) ≤ (mant : Int) := by omega
  obtain ⟨d, nd, dp, neg, tr⟩ := s
  simp only at cn HPOST
  cases neg
  all_goals (
    conv => arg 2; whnf
    conv => arg 4; dsimp only
    go_wp2_with fail
    go_quiet (fail)
    go_wp2_with fail
    (first | (go_quiet (fail); go_wp2_with fail) | skip)
    (first | exact HPOST.out _ (Below.drewN (Below.refl _ _) _) | exact HPOST.out _ (Below.drewN (Below.drewN (Below.refl _ _) _) _)))

noncomputable def fbR0 : Code := .seq .skip fbOut
noncomputable def fbR1 : Code := .seq .skip fbOver
theorem fb_l0 : findLabel fbScope 0 = some fbR0 := by kernel_rfl
theorem fb_l1 : findLabel fbScope 1 = some fbR1 := by kernel_rfl
theorem fb_r0 (b : Nat) (exp : Int) (mant : Nat) (ovf : Bool) (s : Dec) (he1 : -100000 ≤ exp) (he2 : exp ≤ 100000) (hm : mant < 18446744073709551616)
    (w : World) (post : Ending → World → Prop) (u2 u3 u8 u9 u10 u11 u12 u13 u14 u15 u16 u17 u18 u19 u20 u21 u22 u23 u24 u25 u26 u27 u28 u29 u30 u31 u32 u33 u34 u35 u36 u37 u38 u39 u40 u41 u42 u43 u44 u45 u46 u47 u48 u49 u50 u51 u52 u53 u54 u55 u56 u57 u58 u59 u60 u61 u62 u63 u64 u65 u66 u67 u68 u69 u70 u71 u72 u73 u74 u75 u76 u77 u78 u79 u80 u81 u82 u83 u84 u85 u86 u87 u88 u89 u90 u91 u92 u93 u94 u95 u96 u97 u98 u99 u100 u101 u102 u103 u104 u105 u106 u107 u108 u109 u110 u111 u112 u113 u114 u115 u116 u117 u118 u119 u120 u121 u122 u123 u124 u125 u126 u127 u128 u129 u130 u131 u132 u133 u134 u135 u136 u137 u138 u139 u140 u141 u142 u143 u144 u145 u146 u147 u148 u149 u150 u151 u152 u153 u154 u155 u156 u157 u158 u159 u160 u161 u162 u163 u164 u165 u166 u167 u168 u169 u170 u171 u172 u173 u174 u175 u176 u177 u178 u179 u180 u181 u182 u183 u184 u185 u186 u187 u188 u189 u190 u191 u192 u193 u194 u195 u196 u197 u198 u199 u200 u201 u202 u203 u204 u205 u206 u207 u208 u209 u210 u211 u212 u213 u214 u215 u216 u217 u218 u219 u220 u221 u222 u223 u224 u225 u226 u227 u228 u229 u230 u231 u232 u233 u234 u235 u236 u237 u238 u239 u240 u241 u242 : Value) (hd : DecAt w b s)
    (i0 : w.cell? ⟨5, 0, none⟩ = some (.int .u64 52)) (i1 : w.cell? ⟨5, 1, none⟩ = some (.int .u64 11)) (i2 : w.cell? ⟨5, 2, none⟩ = some (.int .i64 (-1023)))
    (hpost : ∀ w', Below b w w' → post (.returned (.tuple #[.int .u64 (outI (mant : Int) exp s.neg), .bool ovf])) w') :
    Code.wp Tryz.prog fbR0 (Exit.noGoto (bodyPost Tryz.prog Tryz.f59 post)) ⟨#[.pointer (some ⟨b, 0, none⟩), .pointer (some ⟨5, 0, none⟩), u2, u3, .int .u64 0, .bool ovf, .int .i64 exp, .int .u64 (mant : Int), u8, u9, u10, u11, u12, u13, u14, u15, u16, u17, u18, u19, u20, u21, u22, u23, u24, u25, u26, u27, u28, u29, u30, u31, u32, u33, u34, u35, u36, u37, u38, u39, u40, u41, u42, u43, u44, u45, u46, u47, u48, u49, u50, u51, u52, u53, u54, u55, u56, u57, u58, u59, u60, u61, u62, u63, u64, u65, u66, u67, u68, u69, u70, u71, u72, u73, u74, u75, u76, u77, u78, u79, u80, u81, u82, u83, u84, u85, u86, u87, u88, u89, u90, u91, u92, u93, u94, u95, u96, u97, u98, u99, u100, u101, u102, u103, u104, u105, u106, u107, u108, u109, u110, u111, u112, u113, u114, u115, u116, u117, u118, u119, u120, u121, u122, u123, u124, u125, u126, u127, u128, u129, u130, u131, u132, u133, u134, u135, u136, u137, u138, u139, u140, u141, u142, u143, u144, u145, u146, u147, u148, u149, u150, u151, u152, u153, u154, u155, u156, u157, u158, u159, u160, u161, u162, u163, u164, u165, u166, u167, u168, u169, u170, u171, u172, u173, u174, u175, u176, u177, u178, u179, u180, u181, u182, u183, u184, u185, u186, u187, u188, u189, u190, u191, u192, u193, u194, u195, u196, u197, u198, u199, u200, u201, u202, u203, u204, u205, u206, u207, u208, u209, u210, u211, u212, u213, u214, u215, u216, u217, u218, u219, u220, u221, u222, u223, u224, u225, u226, u227, u228, u229, u230, u231, u232, u233, u234, u235, u236, u237, u238, u239, u240, u241, u242], []⟩ w :=
  wp_seq (wp_skip (fb_out b exp mant ovf s he1 he2 hm w post u2 u3 u8 u9 u10 u11 u12 u13 u14 u15 u16 u17 u18 u19 u20 u21 u22 u23 u24 u25 u26 u27 u28 u29 u30 u31 u32 u33 u34 u35 u36 u37 u38 u39 u40 u41 u42 u43 u44 u45 u46 u47 u48 u49 u50 u51 u52 u53 u54 u55 u56 u57 u58 u59 u60 u61 u62 u63 u64 u65 u66 u67 u68 u69 u70 u71 u72 u73 u74 u75 u76 u77 u78 u79 u80 u81 u82 u83 u84 u85 u86 u87 u88 u89 u90 u91 u92 u93 u94 u95 u96 u97 u98 u99 u100 u101 u102 u103 u104 u105 u106 u107 u108 u109 u110 u111 u112 u113 u114 u115 u116 u117 u118 u119 u120 u121 u122 u123 u124 u125 u126 u127 u128 u129 u130 u131 u132 u133 u134 u135 u136 u137 u138 u139 u140 u141 u142 u143 u144 u145 u146 u147 u148 u149 u150 u151 u152 u153 u154 u155 u156 u157 u158 u159 u160 u161 u162 u163 u164 u165 u166 u167 u168 u169 u170 u171 u172 u173 u174 u175 u176 u177 u178 u179 u180 u181 u182 u183 u184 u185 u186 u187 u188 u189 u190 u191 u192 u193 u194 u195 u196 u197 u198 u199 u200 u201 u202 u203 u204 u205 u206 u207 u208 u209 u210 u211 u212 u213 u214 u215 u216 u217 u218 u219 u220 u221 u222 u223 u224 u225 u226 u227 u228 u229 u230 u231 u232 u233 u234 u235 u236 u237 u238 u239 u240 u241 u242 hd i0 i1 i2 hpost))
end Go.Proofs.YtodihpaabkplhaaGreatDoor
