/- ftoa64: with a number of digits: what it is; the way by a fixed width. -/
import Derived.Test.YtodihpaabkplhaaDoorFta
import Derived.Test.YtodihpaabkplhaaDoorAss
import Derived.Test.YtodihpaabkplhaaDoorCod
import Derived.Deep.RegionWith
import Derived.BigRegion
import Derived.Deep.CutBlock
import Derived.Lib.MinMax
namespace Go.Proofs.YtodihpaabkplhaaDoor
open Go.RowKit

def digsF (x : Nat) (prec : Int) : Int := if 0 ≤ expF x then 1 + (1 + expF x) * 78913 / 262144 + prec else 1 + prec - -expF x * 78913 / 262144
def fxU (x : Nat) (prec : Int) : Nat := if 0 < digsF x prec then (fixD (mmF x) (xpF x) (digsF x prec) prec).toNat else 0
def fxP (x : Nat) (prec : Int) : Int := fixE (mmF x) (xpF x) (digsF x prec) prec
def fxDig (x : Nat) (prec : Int) : Nat → UInt8 := if fxU x prec = 0 then zeroB else digD (fxU x prec) (nDig (fxU x prec)) zeroB
def fxN (x : Nat) (prec : Int) : Nat := if fxU x prec = 0 then 0 else trimN (digD (fxU x prec) (nDig (fxU x prec)) zeroB) (nDig (fxU x prec))
def fxE (x : Nat) (prec : Int) : Int := if fxU x prec = 0 then 0 else nDig (fxU x prec) + fxP x prec
def fxText (x : Nat) (prec : Int) : List UInt8 := efgF (negF x) (fxDig x prec) (fxN x prec) (fxE x prec) prec

theorem fxU_lt (x : Nat) (prec : Int) : fxU x prec < 18446744073709551616 := by
  unfold fxU
  have := u64_fixD (mmF x) (xpF x) (digsF x prec) prec
  obtain ⟨h1, h2⟩ := this
  split
  · omega
  · decide
theorem fixP_facts (x : Nat) (n prec : Int) (he : eF x ≠ 2047) (hm : mantF x ≠ 0) (n0 : 1 ≤ n) (n1 : n ≤ 18) (p0 : 0 ≤ prec) (p1 : prec ≤ 20) : -20 ≤ fixE (mmF x) (xpF x) n prec ∧ fixE (mmF x) (xpF x) n prec ≤ 400 := by
  obtain ⟨h1, h2⟩ := xpF_facts x he hm
  unfold fixE
  have h3 : -310 ≤ (fixUP (mmF x) (xpF x) n).2 := by
    unfold fixUP fixP
    split <;> simp only <;> omega
  split <;> omega
theorem trimN_zero (D : Nat → UInt8) : trimN D 0 = 0 := rfl

noncomputable def fxCode : Code := (Tryd.f60.body.bind (seqAt 65)).getD .skip

set_option maxRecDepth 100000 in
set_option maxHeartbeats 1600000 in
theorem fx_tail (cb co B x M : Nat) (neg : Bool) (dst : Value) (prec dg ex : Int) (w0 : World) (K1 : Act → World → Prop) (post : Ending → World → Prop)
    (u4 u5 u6 u7 u8 u10 u12 u16 u17 u18 u19 u20 u21 u22 u23 u25 u26 u27 u28 u29 u30 u31 u32 u33 u34 u35 u36 u37 u38 u39 u40 u41 u42 u43 u44 u45 u46 u47 u48 u49 u50 u51 u52 u53 u54 u55 u56 u57 u58 u59 u60 u61 u62 u63 u64 u65 u66 u67 u68 u69 u70 u71 u72 u73 u74 u75 u76 u77 u78 u79 u80 u81 u82 u83 u84 u85 u86 u87 u88 u89 u90 u91 u92 u93 u94 u95 u96 u97 u98 u99 u100 u101 u102 u103 u104 u105 u106 u107 u108 u109 u110 u111 u112 u113 u114 u115 u116 u117 u118 u119 u120 u121 u122 u123 u124 u125 u126 u127 u128 u129 u130 u131 u132 u133 u134 u135 u136 u137 u138 u139 u140 u141 u142 u143 u144 u145 u146 u147 u148 u149 u150 u151 u152 u153 u154 u155 u156 u157 u158 u159 u160 u161 u162 u163 u164 u165 u166 u167 u168 u169 u170 u171 u172 u173 u174 u175 u176 u177 u178 u179 u180 u181 u182 u183 u184 u185 u186 u187 u188 u189 u190 u191 u192 u193 u194 u195 u196 u197 u198 u199 u200 u201 u202 u203 u204 u205 u206 u207 u208 u209 u210 u211 u212 u213 u214 u215 u216 u217 u218 u219 u220 u221 u222 u223 u224 u225 u226 u227 u228 u229 u230 u231 u232 u233 u234 u235 u236 u237 u238 u239 u240 u241 u242 u243 u244 u245 u246 u247 u248 u249 u250 u251 u252 u253 u254 u255 u256 u257 u258 u259 u260 u261 u262 u263 u264 u265 u266 u267 u268 u269 u270 u271 u272 u273 u274 u275 u276 u277 u278 u279 u280 u281 u282 u283 u284 u285 u286 u287 u288 u289 u290 u291 u292 u293 u294 u295 u296 u297 : Value)
    (T2 : Tabs cb co w0) (hb2 : Bytes w0 B dst []) (hB3 : B ≤ w0.heap.size) (he : eF x ≠ 2047) (hm : mantF x ≠ 0) (hn : negF x = neg) (hMe : mantF x = M) (hex : expF x = ex) (hdg : digsF x prec = dg) (h18 : dg ≤ 18) (p0 : 0 ≤ prec) (p1 : prec ≤ 20)
    (hpost : ∀ v' w', Bytes w' B v' (fxText x prec) → Below B w0 w' → post (.returned v') w') :
    Code.wp Tryd.prog fxCode (Exit.then K1 (bodyPost Tryd.prog Tryd.f60 post)) ⟨#[dst, .float .f64 x, .int .u8 102, .int .i64 prec, u4, u5, u6, u7, u8, .int .u64 x, u10, .int .i64 52, u12, .bool neg, .int .i64 ex, .int .u64 M, u16, u17, u18, u19, u20, u21, u22, u23, .int .i64 dg, u25, u26, u27, u28, u29, u30, u31, u32, u33, u34, u35, u36, u37, u38, u39, u40, u41, u42, u43, u44, u45, u46, u47, u48, u49, u50, u51, u52, u53, u54, u55, u56, u57, u58, u59, u60, u61, u62, u63, u64, u65, u66, u67, u68, u69, u70, u71, u72, u73, u74, u75, u76, u77, u78, u79, u80, u81, u82, u83, u84, u85, u86, u87, u88, u89, u90, u91, u92, u93, u94, u95, u96, u97, u98, u99, u100, u101, u102, u103, u104, u105, u106, u107, u108, u109, u110, u111, u112, u113, u114, u115, u116, u117, u118, u119, u120, u121, u122, u123, u124, u125, u126, u127, u128, u129, u130, u131, u132, u133, u134, u135, u136, u137, u138, u139, u140, u141, u142, u143, u144, u145, u146, u147, u148, u149, u150, u151, u152, u153, u154, u155, u156, u157, u158, u159, u160, u161, u162, u163, u164, u165, u166, u167, u168, u169, u170, u171, u172, u173, u174, u175, u176, u177, u178, u179, u180, u181, u182, u183, u184, u185, u186, u187, u188, u189, u190, u191, u192, u193, u194, u195, u196, u197, u198, u199, u200, u201, u202, u203, u204, u205, u206, u207, u208, u209, u210, u211, u212, u213, u214, u215, u216, u217, u218, u219, u220, u221, u222, u223, u224, u225, u226, u227, u228, u229, u230, u231, u232, u233, u234, u235, u236, u237, u238, u239, u240, u241, u242, u243, u244, u245, u246, u247, u248, u249, u250, u251, u252, u253, u254, u255, u256, u257, u258, u259, u260, u261, u262, u263, u264, u265, u266, u267, u268, u269, u270, u271, u272, u273, u274, u275, u276, u277, u278, u279, u280, u281, u282, u283, u284, u285, u286, u287, u288, u289, u290, u291, u292, u293, u294, u295, u296, u297], []⟩ w0 := by
  have hL := lenF_facts x hm
  have hXP := xpF_facts x he hm
  have hMM := u64_mmF x
  have hmm : mmF x = IntKind.u64.wrap ((mantF x : Int) * 2 ^ (64 - lenF x)) := rfl
  have hxp : xpF x = expF x - ((64 - lenF x : Nat) : Int) - 52 := rfl
  have hlx : lenF x = Lib.bitLen (mantF x) := rfl
  have hex2 := expF_facts x he
  have hM53 := mantF_lt x
  have hfp := fixP_facts x dg prec he hm
  rw [hMe] at hmm hlx hM53 hm
  rw [hex] at hxp hex2
  obtain ⟨L, hLe⟩ : ∃ L, lenF x = L := ⟨_, rfl⟩
  rw [hLe] at hL hmm hxp hlx
  obtain ⟨S, hS⟩ : ∃ S, 64 - L = S := ⟨_, rfl⟩
  rw [hS] at hmm hxp
  have hSi : (64 : Int) - (L : Int) = (S : Int) := by omega
  have hU := fxU_lt x prec
  have hUd : fxU x prec = if 0 < dg then (fixD (mmF x) (xpF x) dg prec).toNat else 0 := by unfold fxU; rw [hdg]
  have hPd : fxP x prec = fixE (mmF x) (xpF x) dg prec := by unfold fxP; rw [hdg]
  have hfd := u64_fixD (mmF x) (xpF x) dg prec
  have hfx := fun a b => fixed_any cb co (mmF x) (xpF x) dg prec a b hMM hXP.1 hXP.2
  have hbd : fxN x prec ≤ 20 ∧ -20 ≤ fxE x prec ∧ fxE x prec ≤ 420 := by
    have hD := nDig_le (fxU x prec) hU
    have hT := trimN_le (digD (fxU x prec) (nDig (fxU x prec)) zeroB) (nDig (fxU x prec))
    unfold fxN fxE
    by_cases hu : fxU x prec = 0
    · simp only [hu, if_true]
      omega
    · simp only [hu, if_false]
      have hd0 : 0 < dg := by
        rcases Int.lt_or_le 0 dg with h | h
        · exact h
        · rw [if_neg (by omega)] at hUd
          exact absurd hUd hu
      have hp := hfp (by omega) h18 p0 p1
      rw [← hPd] at hp
      omega
  have HBd := Lib.hid hbd
  clear hbd
  have hH := Lib.hid (And.intro hpost (And.intro hlx (And.intro hUd (And.intro hPd (And.intro hS hm)))))
  clear hpost hlx hUd hPd hS hm he
  conv => arg 2; whnf
  obtain ⟨g, hg⟩ : ∃ g, w0.heap.size = g := ⟨_, rfl⟩
  have hc0 := Cells.new w0 109 (Array.replicate 24 (.int .u8 0)) (byteC zeroB) (fill_rep 24 (.int .u8 0))
  rw [hg] at hc0
  have hBa : Below g w0 (w0.alloc (.cells (Array.replicate 24 (.int .u8 0)) 109)) := (Below.refl _ _).alloc (by omega) _
  go_upto_region 67 with fail
  obtain ⟨W1, hW1⟩ : ∃ W1, w0.alloc (.cells (Array.replicate 24 (.int .u8 0)) 109) = W1 := ⟨_, rfl⟩
  rw [hW1] at hc0 hBa
  change Code.wp _ _ _ _ (w0.alloc (.cells (Array.replicate 24 (.int .u8 0)) 109))
  rw [hW1]
  clear hW1
  have hb3 : Bytes W1 B dst [] := hb2.below hBa (by omega)
  have T3 : Tabs cb co W1 := T2.below (hg ▸ hBa)
  have hdst : dst.ownBlock ≠ some g := fun h => by have := hb2.lt h; omega
  go_upto_if 206 with fail
  go_cut [26, 27] (fun a c wx => a = .int .i64 (fxE x prec) ∧ c = .int .i64 (fxN x prec) ∧ Cells wx g 109 24 (byteC (fxDig x prec)) ∧ Below g W1 wx)
  case first =>
    by_cases hd0 : 0 < dg
    · have hlen := len64_any (M : Int) W1 ⟨by omega, by omega⟩
      rw [Int.toNat_natCast, ← hH.out.2.1] at hlen
      go_wp2_with fail
      refine hlen.mono ?_
      rintro e w1 ⟨rfl, rfl⟩
      clear hlen
      go_wp2_with fail
      rw [← hmm, ← hxp]
      refine (hfx W1 T3 (by omega) h18 p0 p1).mono ?_
      rintro e w2 ⟨rfl, hb4⟩
      clear hfx
      have hu2 := hH.out.2.2.1
      rw [if_pos hd0] at hu2
      have hu3 : fixD (mmF x) (xpF x) dg prec = ((fxU x prec : Nat) : Int) := by
        rw [hu2]
        have := hfd.1
        omega
      rw [hu3, ← hH.out.2.2.2.1]
      have hp := hfp (by omega) h18 p0 p1
      rw [← hH.out.2.2.2.1] at hp
      have hc1 := hc0.below hb4 hc0.lt
      have T4 : Tabs cb co w2 := T3.below hb4
      have hg4 : Below g W1 w2 := hb4.mono (Nat.le_of_lt hc0.lt)
      have hQ : (fxU x prec = 0 → fxE x prec = 0 ∧ fxN x prec = 0 ∧ fxDig x prec = zeroB) ∧ (fxU x prec ≠ 0 → fxE x prec = nDig (fxU x prec) + fxP x prec ∧ fxN x prec = trimN (digD (fxU x prec) (nDig (fxU x prec)) zeroB) (nDig (fxU x prec)) ∧ fxDig x prec = digD (fxU x prec) (nDig (fxU x prec)) zeroB) := by
        unfold fxE fxN fxDig
        exact ⟨fun h => by simp only [h, if_true]; exact ⟨trivial, trivial, trivial⟩, fun h => by simp only [h, if_false]; exact ⟨trivial, trivial, trivial⟩⟩
      obtain ⟨u, hue⟩ : ∃ u, fxU x prec = u := ⟨_, rfl⟩
      obtain ⟨p, hpe⟩ : ∃ p, fxP x prec = p := ⟨_, rfl⟩
      rw [hue] at hu2 hu3 hU ⊢
      rw [hpe] at hp ⊢
      rw [hue, hpe] at hQ
      have HQ := Lib.hid hQ
      have hD : nDig u ≤ 20 := nDig_le u hU
      clear hu2 hu3 hfd hmm hxp hQ hue hpe hH hMM hb2 hb3 T2 T3 hc0
      by_cases hu0 : u = 0
      · subst hu0
        have hz := HQ.out.1 rfl
        go_wp2_with fail
        go_meet
        exact ⟨by rw [hz.1], by rw [hz.2.1]; first | done | rfl, by rw [hz.2.2]; exact hc1, hg4⟩
      · have hu1 : ((u : Int) == 0) = false := by rw [beq_eq_false_iff_ne]; omega
        have hz := Lib.hid (HQ.out.2 hu0)
        clear HQ
        go_upto_region 74 with fail
        go_region_with (first
          | (go_at_call 73; refine (numDigits_any cb co u hU _ (T4.below (Below.drewN (Below.refl _ _) 1))).mono ?_; rintro e w' ⟨rfl, rfl⟩)
          | (go_at_call 72; refine (setDigits_any g 24 24 (nDig u) u p 109 zeroB _ (hc1.drewN 1) (by omega) (by omega) (by omega) (by omega) (nDig_lt u) hU (by omega) (by omega)).mono ?_; rintro e w' ⟨rfl, hc2, hb6⟩))
        all_goals (go_wp2_with fail; go_meet; refine ⟨by rw [hz.out.1], by rw [hz.out.2.1], by rw [hz.out.2.2]; exact hc2, hg4.trans ((Below.drewN (Below.refl _ _) 1).trans hb6)⟩)
    · have hu2 := hH.out.2.2.1
      rw [if_neg hd0] at hu2
      have hz : fxE x prec = 0 ∧ fxN x prec = 0 ∧ fxDig x prec = zeroB := by
        unfold fxE fxN fxDig
        simp only [hu2, if_true]
        exact ⟨trivial, trivial, trivial⟩
      have HZ := Lib.hid hz
      clear hz hu2 hfx hmm hxp
      go_wp2_with fail
      go_meet
      exact ⟨by rw [HZ.out.1], by rw [HZ.out.2.1]; first | done | rfl, by rw [HZ.out.2.2]; exact hc0, Below.refl _ _⟩
  case rest =>
    obtain ⟨rfl, rfl, hc2, hb6⟩ := hcut
    rename_i K3 hK3
    refine hK3 _ _ ?_
    clear hK3 hc0
    have hb7 : Bytes wc B dst [] := by
      refine ⟨hb2.1, ?_⟩
      rcases hb2.2 with ⟨e, n⟩ | ⟨g', cap, cur, e, hBg, hg', h4⟩
      · exact Or.inl ⟨e, n⟩
      · have hlt : g' < g := by
          have := hb2.lt (c := g') (by rw [e]; rfl)
          omega
        exact Or.inr ⟨g', cap, cur, e, hBg, by rw [hb6.block g' hlt, hBa.block g' hlt]; exact hg', h4⟩
    have hBw : Below B w0 wc := (hBa.trans hb6).mono (by omega)
    have hB1 := HBd.out.1
    have hB2 := HBd.out.2.1
    have hB4 := HBd.out.2.2
    have hfin : fxText x prec = efgF neg (fxDig x prec) (fxN x prec) (fxE x prec) prec := by unfold fxText; rw [hn]
    have HF := Lib.hid (And.intro hfin hH.out.1)
    clear hfin hH hb2 hb3 T2 T3 hb6 hBa hfp hfx HBd hmm hxp hdg hU hMM hXP hex hMe hn
    obtain ⟨N, hN⟩ : ∃ N, fxN x prec = N := ⟨_, rfl⟩
    obtain ⟨F, hF⟩ : ∃ F, fxE x prec = F := ⟨_, rfl⟩
    obtain ⟨D, hDD⟩ : ∃ D, fxDig x prec = D := ⟨_, rfl⟩
    rw [hN, hF, hDD] at HF
    rw [hN] at hB1 ⊢
    rw [hF] at hB2 hB4 ⊢
    rw [hDD] at hc2
    clear hN hF hDD
    go_wp2_with fail
    have hBs : B ≤ wc.heap.size := Nat.le_trans (by omega) (Nat.le_of_lt hc2.lt)
    refine (efg_any B g 24 24 N 109 D neg false _ dst [] F prec wc hb7 (by simp) (fun _ => ⟨rfl, hc2, hdst⟩) hBs (by omega) (by omega) (by omega) (by omega) (by omega) (by omega) (by omega)).mono ?_
    rintro e w3 ⟨v', rfl, hb8, hg8⟩
    rw [List.nil_append, ← HF.out.1] at hb8
    go_wp2
    exact HF.out.2 _ _ hb8 (hBw.trans hg8.below)
end Go.Proofs.YtodihpaabkplhaaDoor
