/- ftoa64: with a number of digits: the way by a decimal. -/
import Derived.Test.YtodihpaabkplhaaDoorFta
import Derived.Test.YtodihpaabkplhaaDoorAss
import Derived.Test.YtodihpaabkplhaaDoorCod
import Derived.Deep.RegionWith
import Derived.BigRegion
import Derived.Deep.CutBlock
import Derived.Lib.MinMax
import Derived.StillTailTactics
namespace Go.Proofs.YtodihpaabkplhaaDoor
open Go.RowKit

def zeroDec : Dec := ⟨zeroB, 0, 0, false, false⟩
def deS (x : Nat) : Dec := shiftD (assignD (mantF x) zeroDec) (expF x - 52)
def deR (x : Nat) (prec : Int) : Dec := roundD (deS x) ((deS x).dp + prec)
def deText (x : Nat) (prec : Int) : List UInt8 := efgF (negF x) (deR x prec).d (deR x prec).nd (deR x prec).dp prec

theorem zero_cells : Tryd.zeroCells114 = ((List.replicate 800 (Value.int .u8 0)) ++ [Value.int .i64 0, Value.int .i64 0, Value.bool false, Value.bool false]).toArray := by kernel_rfl
theorem zero_size : Tryd.zeroCells114.size = 804 := by rw [zero_cells, List.size_toArray, List.length_append, List.length_replicate]; rfl
theorem zero_at (i : Nat) (hi : i < Tryd.zeroCells114.size) : Tryd.zeroCells114[i]? = some (decC zeroDec i) := by
  rw [zero_size] at hi
  rw [zero_cells, List.getElem?_toArray]
  unfold decC
  by_cases h : i < 800
  · rw [if_pos h, List.getElem?_append_left (by rw [List.length_replicate]; exact h), List.getElem?_replicate, if_pos h]
    rfl
  · rw [if_neg h, List.getElem?_append_right (by rw [List.length_replicate]; omega), List.length_replicate]
    rcases (show i = 800 ∨ i = 801 ∨ i = 802 ∨ i = 803 by omega) with rfl | rfl | rfl | rfl <;> rfl

theorem assignD_good (u : Nat) (hu : 0 < u) (hu64 : u < 18446744073709551616) (s : Dec) : Good (assignD u s) ∧ (assignD u s).dp = nDig u := by
  have h1 := (nDig_pos_iff u 0).1 (by simpa using hu)
  have h2 := nDig_lt u
  have h3 := (nDig_pos_iff u (nDig u - 1)).2 (by omega)
  have hlead : 49 ≤ (digsD u (nDig u) s.d (nDig u) 0).toNat := by
    unfold digsD
    rw [if_pos h1, Nat.sub_zero]
    unfold Lib.dg
    have h4 : u / 10 ^ (nDig u - 1) < 10 := by
      rw [Nat.div_lt_iff_lt_mul (Nat.pow_pos (by decide)), Nat.mul_comm, ← Nat.pow_succ]
      have e : (nDig u - 1).succ = nDig u := by omega
      rw [e]
      exact h2
    have h5 : u / 10 ^ (nDig u - 1) % 10 = u / 10 ^ (nDig u - 1) := Nat.mod_eq_of_lt h4
    rw [h5]
    simp
    omega
  have hpos := trimN_pos (digsD u (nDig u) s.d (nDig u)) hlead (nDig u) h1
  have hdp : (assignD u s).dp = nDig u := by
    unfold assignD trimD
    simp only
    rw [if_neg (by omega)]
  refine ⟨⟨?_, hpos, hlead⟩, hdp⟩
  unfold assignD
  refine trimD_digits ⟨?_, ?_⟩
  · simp only
    have := nDig_le u hu64
    omega
  · intro i hi
    simp only at hi ⊢
    unfold digsD
    rw [if_pos hi]
    unfold Lib.dg
    have := Nat.mod_lt (u / 10 ^ (nDig u - 1 - i)) (show 0 < 10 by decide)
    simp
    omega

noncomputable def deCode : Code := (Tryd.f60.body.bind (seqAt 76)).getD .skip

set_option maxRecDepth 100000 in
set_option maxHeartbeats 1600000 in
theorem de_tail (cb co B x M : Nat) (neg : Bool) (dst : Value) (prec ex : Int) (w0 : World) (post : Ending → World → Prop)
    (u4 u5 u6 u7 u8 u10 u12 u16 u17 u18 u19 u20 u21 u22 u23 u24 u25 u26 u27 u28 u29 u30 u31 u32 u33 u34 u35 u36 u37 u38 u39 u40 u41 u42 u43 u44 u45 u46 u47 u48 u49 u50 u51 u52 u53 u54 u55 u56 u57 u58 u59 u60 u61 u62 u63 u64 u65 u66 u67 u68 u69 u70 u71 u72 u73 u74 u75 u76 u77 u78 u79 u80 u81 u82 u83 u84 u85 u86 u87 u88 u89 u90 u91 u92 u93 u94 u95 u96 u97 u98 u99 u100 u101 u102 u103 u104 u105 u106 u107 u108 u109 u110 u111 u112 u113 u114 u115 u116 u117 u118 u119 u120 u121 u122 u123 u124 u125 u126 u127 u128 u129 u130 u131 u132 u133 u134 u135 u136 u137 u138 u139 u140 u141 u142 u143 u144 u145 u146 u147 u148 u149 u150 u151 u152 u153 u154 u155 u156 u157 u158 u159 u160 u161 u162 u163 u164 u165 u166 u167 u168 u169 u170 u171 u172 u173 u174 u175 u176 u177 u178 u179 u180 u181 u182 u183 u184 u185 u186 u187 u188 u189 u190 u191 u192 u193 u194 u195 u196 u197 u198 u199 u200 u201 u202 u203 u204 u205 u206 u207 u208 u209 u210 u211 u212 u213 u214 u215 u216 u217 u218 u219 u220 u221 u222 u223 u224 u225 u226 u227 u228 u229 u230 u231 u232 u233 u234 u235 u236 u237 u238 u239 u240 u241 u242 u243 u244 u245 u246 u247 u248 u249 u250 u251 u252 u253 u254 u255 u256 u257 u258 u259 u260 u261 u262 u263 u264 u265 u266 u267 u268 u269 u270 u271 u272 u273 u274 u275 u276 u277 u278 u279 u280 u281 u282 u283 u284 u285 u286 u287 u288 u289 u290 u291 u292 u293 u294 u295 u296 u297 : Value)
    (T2 : Tabs cb co w0) (hb2 : Bytes w0 B dst []) (hB3 : B ≤ w0.heap.size) (he : eF x ≠ 2047) (hm : mantF x ≠ 0) (hn : negF x = neg) (hMe : mantF x = M) (hex : expF x = ex) (p0 : 0 ≤ prec) (p1 : prec ≤ 20)
    (hpost : ∀ v' w', Bytes w' B v' (deText x prec) → Below B w0 w' → post (.returned v') w') :
    Code.wp Tryd.prog deCode (bodyPost Tryd.prog Tryd.f60 post) ⟨#[dst, .float .f64 x, .int .u8 102, .int .i64 prec, u4, u5, u6, u7, u8, .int .u64 x, u10, .int .i64 52, u12, .bool neg, .int .i64 ex, .int .u64 M, u16, u17, u18, u19, u20, u21, u22, u23, u24, u25, u26, u27, u28, u29, u30, u31, u32, u33, u34, u35, u36, u37, u38, u39, u40, u41, u42, u43, u44, u45, u46, u47, u48, u49, u50, u51, u52, u53, u54, u55, u56, u57, u58, u59, u60, u61, u62, u63, u64, u65, u66, u67, u68, u69, u70, u71, u72, u73, u74, u75, u76, u77, u78, u79, u80, u81, u82, u83, u84, u85, u86, u87, u88, u89, u90, u91, u92, u93, u94, u95, u96, u97, u98, u99, u100, u101, u102, u103, u104, u105, u106, u107, u108, u109, u110, u111, u112, u113, u114, u115, u116, u117, u118, u119, u120, u121, u122, u123, u124, u125, u126, u127, u128, u129, u130, u131, u132, u133, u134, u135, u136, u137, u138, u139, u140, u141, u142, u143, u144, u145, u146, u147, u148, u149, u150, u151, u152, u153, u154, u155, u156, u157, u158, u159, u160, u161, u162, u163, u164, u165, u166, u167, u168, u169, u170, u171, u172, u173, u174, u175, u176, u177, u178, u179, u180, u181, u182, u183, u184, u185, u186, u187, u188, u189, u190, u191, u192, u193, u194, u195, u196, u197, u198, u199, u200, u201, u202, u203, u204, u205, u206, u207, u208, u209, u210, u211, u212, u213, u214, u215, u216, u217, u218, u219, u220, u221, u222, u223, u224, u225, u226, u227, u228, u229, u230, u231, u232, u233, u234, u235, u236, u237, u238, u239, u240, u241, u242, u243, u244, u245, u246, u247, u248, u249, u250, u251, u252, u253, u254, u255, u256, u257, u258, u259, u260, u261, u262, u263, u264, u265, u266, u267, u268, u269, u270, u271, u272, u273, u274, u275, u276, u277, u278, u279, u280, u281, u282, u283, u284, u285, u286, u287, u288, u289, u290, u291, u292, u293, u294, u295, u296, u297], []⟩ w0 := by
  have hex2 := expF_facts x he
  have hM53 := mantF_lt x
  rw [hMe] at hM53 hm
  rw [hex] at hex2
  conv => arg 2; whnf
  obtain ⟨g, hg⟩ : ∃ g, w0.heap.size = g := ⟨_, rfl⟩
  go_upto_region 77 with fail
  have hd0 : DecAt (w0.alloc (.cells Tryd.zeroCells114 114)) g zeroDec := by
    have := Cells.new w0 114 Tryd.zeroCells114 (decC zeroDec) zero_at
    rw [zero_size, hg] at this
    exact this
  have hBa : Below g w0 (w0.alloc (.cells Tryd.zeroCells114 114)) := (Below.refl _ _).alloc (by omega) _
  have hdst : dst.ownBlock ≠ some g := fun h => by have := hb2.lt h; omega
  obtain ⟨W1, hW1⟩ : ∃ W1, w0.alloc (.cells Tryd.zeroCells114 114) = W1 := ⟨_, rfl⟩
  rw [hW1] at hd0 hBa ⊢
  clear hW1
  obtain ⟨hg1, hdp1⟩ := assignD_good M (by omega) (by omega) zeroDec
  have hn20 := nDig_le M (by omega)
  have hS : deS x = shiftD (assignD M zeroDec) (ex - 52) := by unfold deS; rw [hMe, hex]
  obtain ⟨hg2, hdp2, hdp3⟩ := shiftD_good hg1 (ex - 52)
  rw [← hS] at hg2 hdp2 hdp3
  have hRr : deR x prec = roundD (deS x) ((deS x).dp + prec) := rfl
  have hdig := roundD_digits hg2.dig ((deS x).dp + prec)
  have hdp4 := roundD_dp (deS x) ((deS x).dp + prec)
  rw [← hRr] at hdig hdp4
  have hH := Lib.hid (And.intro hpost (And.intro hS (And.intro hRr (And.intro hn hdig))))
  have HG := Lib.hid hg1
  have HG2 := Lib.hid hg2
  clear hpost hS hRr hn hdig hg1 hg2 hm he
  have hT1 := Lib.hid T2
  clear T2
  go_wp2_with fail
  refine (assign_any g M zeroDec W1 hd0 (by omega)).mono ?_
  rintro e w1 ⟨rfl, hd1, hb1⟩
  go_wp2_with fail
  have hW1' : Below w0.heap.size w0 w1 := (hBa.trans hb1).mono (by omega)
  refine (shift_any cb co g (ex - 52) (assignD M zeroDec) w0 w1 hd1 HG.out hT1.out hW1' (by omega) (by omega) (by omega) (by omega) (by omega)).mono ?_
  rintro e w2 ⟨rfl, hd2, hb2'⟩
  rw [← hH.out.2.1] at hd2
  have c1 := hd2.hdp
  go_wp2_with fail
  refine (round_any_dec g ((deS x).dp + prec) (deS x) w2 hd2 HG2.out.dig (by omega) (by omega)).mono ?_
  rintro e w3 ⟨rfl, hd3, hb3'⟩
  rw [← hH.out.2.2.1] at hd3
  clear c1
  have c1 := hd3.hdp
  have c2 := hd3.hnd
  go_wp2_with fail
  have hdg := hH.out.2.2.2.2
  have hb8 : Below g w0 w3 := ((hBa.trans hb1).trans hb2').trans hb3'
  obtain ⟨R, hRe⟩ : ∃ R, deR x prec = R := ⟨_, rfl⟩
  have hfin : deText x prec = efgF neg R.d R.nd R.dp prec := by unfold deText; rw [hH.out.2.2.2.1, hRe]
  have HF := Lib.hid (And.intro hfin hH.out.1)
  rw [hRe] at hd3 c1 c2 hdp4 hdg
  have h800 := hdg.1
  have hD2 : Bytes w3 B dst [] := by
    refine ⟨hb2.1, ?_⟩
    rcases hb2.2 with ⟨e, n⟩ | ⟨g', cap, cur, e, hBg, hg', h4⟩
    · exact Or.inl ⟨e, n⟩
    · have hlt : g' < g := by
        have := hb2.lt (c := g') (by rw [e]; rfl)
        omega
      exact Or.inr ⟨g', cap, cur, e, hBg, by rw [hb8.block g' hlt]; exact hg', h4⟩
  have hdpb : -2000 ≤ R.dp ∧ R.dp ≤ 2000 := by omega
  obtain ⟨d, nd, dp, ng, tr⟩ := R
  simp only at c1 c2 hdpb h800 HF
  have hcl : Cells w3 g 114 800 (byteC d) := Cells.sub hd3 (by omega) (fun i hi => by simp only [decC, byteC]; rw [if_pos hi])
  clear hdp1 hdp2 hdp3 hdp4 HG HG2 hT1 hH hfin hRe hb1 hb2' hb3' hd2 hd1 hd0 hb2 hW1' hdg
  have hBw : Below B w0 w3 := hb8.mono (by omega)
  refine wp_region_still_tail 16 (by kernel_rfl) (by kernel_rfl) ?_
  simp only [List.take_succ_cons, List.take_zero, List.drop_succ_cons, List.drop_zero]
  repeat still_step
  refine wpStill_nil ?_
  change wpList _ _ _ _ _ w3.drew
  have hD3 : Bytes w3.drew B dst [] := hD2
  have hcl3 : Cells w3.drew g 114 800 (byteC d) := hcl.drew
  have hB9 : Below B w0 w3.drew := hBw.drew
  generalize w3.drew = w4 at *
  clear hD2 hcl hBw c1 c2 hd3 hb8 hBa
  go_wp2_with fail
  have hBs : B ≤ w4.heap.size := Nat.le_trans hB3 hB9.size
  refine (efg_any B g 800 800 nd 114 d neg false _ dst [] dp prec w4 hD3 (by simp) (fun _ => ⟨rfl, hcl3, hdst⟩) hBs (by omega) (by omega) (by omega) (by omega) (by omega) (by omega) (by omega)).mono ?_
  rintro e w5 ⟨v', rfl, hb9, hg9⟩
  rw [List.nil_append] at hb9
  go_wp2
  exact HF.out.2 _ _ (by rw [HF.out.1]; exact hb9) (hB9.trans hg9.below)
end Go.Proofs.YtodihpaabkplhaaDoor
