/- fmtEFG for 'f', its end: the point and the digits behind it. -/
import Derived.Test.YtodihpaabkplhaaDoorApp
import Derived.Deep.DeepCutAuto
import Derived.Lib.MinMax
import Derived.Test.YtodihpaabkplhaaDoorCod
namespace Go.Proofs.YtodihpaabkplhaaDoor
open Go.RowKit

def signF (neg : Bool) : List UInt8 := if neg then [45] else []
def intF (D : Nat → UInt8) (nd : Nat) (dp : Int) : List UInt8 :=
  if 0 < dp then (List.range (min nd dp.toNat)).map D ++ List.replicate (dp.toNat - min nd dp.toNat) 48 else [48]
def lzF (dp prec : Int) : Int := min prec (max 0 (-dp))
def midF (nd : Nat) (dp prec : Int) : Int := min (prec - lzF dp prec) (max 0 ((nd : Int) - (dp + lzF dp prec)))
def tzF (nd : Nat) (dp prec : Int) : Int := max 0 (prec - lzF dp prec - midF nd dp prec)
def fracF (D : Nat → UInt8) (nd : Nat) (dp prec : Int) : List UInt8 :=
  if 0 < prec then [46] ++ List.replicate (lzF dp prec).toNat 48 ++ (List.range (midF nd dp prec).toNat).map (fun i : Nat => D (dp + lzF dp prec + (i : Int)).toNat) ++ List.replicate (tzF nd dp prec).toNat 48 else []
def efgF (neg : Bool) (D : Nat → UInt8) (nd : Nat) (dp prec : Int) : List UInt8 := signF neg ++ intF D nd dp ++ fracF D nd dp prec

/-- Behind l the first k values of f; behind l k times x. -/
def withF (l : List UInt8) (f : Nat → UInt8) (k : Nat) : List UInt8 := l ++ (List.range k).map f
def withX (l : List UInt8) (x : UInt8) (k : Nat) : List UInt8 := l ++ List.replicate k x
theorem withF_zero (l : List UInt8) (f : Nat → UInt8) : withF l f 0 = l := by simp [withF]
theorem withX_zero (l : List UInt8) (x : UInt8) : withX l x 0 = l := by simp [withX]
theorem withF_succ (l : List UInt8) (f : Nat → UInt8) (k : Nat) : withF l f (k + 1) = withF l f k ++ [f k] := by
  unfold withF
  rw [List.range_succ, List.map_append, List.append_assoc]; rfl
theorem withX_succ (l : List UInt8) (x : UInt8) (k : Nat) : withX l x (k + 1) = withX l x k ++ [x] := by
  unfold withX
  rw [List.replicate_succ', List.append_assoc]
theorem withF_length (l : List UInt8) (f : Nat → UInt8) (k : Nat) : (withF l f k).length = l.length + k := by simp [withF]
theorem withX_length (l : List UInt8) (x : UInt8) (k : Nat) : (withX l x k).length = l.length + k := by simp [withX]


noncomputable def efgTail : Code := (Tryd.f69.body.bind (seqAt 67)).getD .skip

set_option maxRecDepth 100000 in
set_option maxHeartbeats 4000000 in
theorem efg_tail (B b N cap nd : Nat) (T : TypeId) (D : Nat → UInt8) (neg sh : Bool) (s : Value) (l2 : List UInt8) (dp prec : Int) (wc : World) (K : Act → World → Prop) (post : Ending → World → Prop)
    (u0 u8 u9 u10 u11 u12 u13 u14 u15 u16 u17 u18 u19 u20 u21 u22 u23 u24 u25 u26 u27 u28 u29 u30 u31 u32 u33 u34 u35 u36 u37 u38 u39 u40 u41 u42 u43 u44 u45 u46 u47 u48 u49 u50 u51 u52 u53 u54 u55 u56 u57 u58 u59 u60 u61 u62 u63 u64 u65 u66 u67 u68 u69 u70 u71 u72 u73 u74 u75 u76 u77 u78 u79 u80 u81 u82 u83 u84 u85 u86 u87 u88 u89 u90 u91 u92 u93 u94 u95 u96 u97 u98 u99 u100 u101 u102 u103 u104 u105 u106 u107 u108 u109 u110 u111 u112 u113 u114 u115 u116 u117 u118 u119 u120 u121 u122 u123 u124 u125 u126 u127 u128 u129 u130 u131 u132 u133 u134 u135 u136 u137 u138 u139 u140 u141 u142 u143 u144 u145 u146 u147 u148 u149 u150 u151 u152 u153 u154 u155 u156 u157 u158 u159 u160 u161 u162 u163 u164 u165 u166 u167 u168 u169 u170 u171 u172 u173 u174 u175 u176 u177 u178 u179 u180 u181 u182 u183 u184 u185 u186 u187 u188 u189 u190 u191 u192 u193 u194 u195 u196 u197 u198 u199 u200 u201 u202 u203 u204 u205 u206 u207 u208 u209 u210 u211 u212 u213 u214 u215 u216 u217 u218 u219 u220 u221 u222 u223 u224 u225 u226 u227 u228 u229 u230 u231 u232 u233 u234 u235 u236 u237 u238 u239 u240 u241 u242 u243 u244 u245 u246 u247 u248 u249 u250 u251 u252 u253 u254 u255 u256 u257 u258 u259 u260 u261 u262 u263 u264 u265 u266 u267 u268 u269 u270 u271 : Value)
    (hb1 : Bytes wc B u0 l2) (hl : l2.length ≤ 100000) (hc : 0 < nd ∨ 0 < dp → s = .slice (some ⟨b, 0, none⟩) N cap ∧ Cells wc b T N (byteC D) ∧ u0.ownBlock ≠ some b) (hB1 : B ≤ wc.heap.size)
    (hN : nd ≤ N) (hN1 : N ≤ cap) (hcap : cap ≤ 1000) (d0 : -10000 ≤ dp) (d1 : dp ≤ 10000) (p0 : -1 ≤ prec) (p1 : prec ≤ 10000)
    (hpost : ∀ v' w', Bytes w' B v' (l2 ++ fracF D nd dp prec) → Grew B wc u0 w' v' → post (.returned v') w') :
    Code.wp Tryd.prog efgTail (Exit.inBlock 0 (Exit.then K (bodyPost Tryd.prog Tryd.f69 post))) ⟨#[u0, .bool neg, s, .int .i64 dp, .int .i64 nd, .int .i64 prec, .int .u8 102, .bool sh, u8, u9, u10, u11, u12, u13, u14, u15, u16, u17, u18, u19, u20, u21, u22, u23, u24, u25, u26, u27, u28, u29, u30, u31, u32, u33, u34, u35, u36, u37, u38, u39, u40, u41, u42, u43, u44, u45, u46, u47, u48, u49, u50, u51, u52, u53, u54, u55, u56, u57, u58, u59, u60, u61, u62, u63, u64, u65, u66, u67, u68, u69, u70, u71, u72, u73, u74, u75, u76, u77, u78, u79, u80, u81, u82, u83, u84, u85, u86, u87, u88, u89, u90, u91, u92, u93, u94, u95, u96, u97, u98, u99, u100, u101, u102, u103, u104, u105, u106, u107, u108, u109, u110, u111, u112, u113, u114, u115, u116, u117, u118, u119, u120, u121, u122, u123, u124, u125, u126, u127, u128, u129, u130, u131, u132, u133, u134, u135, u136, u137, u138, u139, u140, u141, u142, u143, u144, u145, u146, u147, u148, u149, u150, u151, u152, u153, u154, u155, u156, u157, u158, u159, u160, u161, u162, u163, u164, u165, u166, u167, u168, u169, u170, u171, u172, u173, u174, u175, u176, u177, u178, u179, u180, u181, u182, u183, u184, u185, u186, u187, u188, u189, u190, u191, u192, u193, u194, u195, u196, u197, u198, u199, u200, u201, u202, u203, u204, u205, u206, u207, u208, u209, u210, u211, u212, u213, u214, u215, u216, u217, u218, u219, u220, u221, u222, u223, u224, u225, u226, u227, u228, u229, u230, u231, u232, u233, u234, u235, u236, u237, u238, u239, u240, u241, u242, u243, u244, u245, u246, u247, u248, u249, u250, u251, u252, u253, u254, u255, u256, u257, u258, u259, u260, u261, u262, u263, u264, u265, u266, u267, u268, u269, u270, u271], []⟩ wc := by
  have HP := Lib.hid hpost
  have HC := Lib.hid hc
  clear hpost hc
  obtain ⟨t, ht⟩ : ∃ t, decide (0 < prec) = t := ⟨_, rfl⟩
  conv => arg 2; whnf
  go_upto_if 213 with fail
  cases t with
  | false =>
    have hp : ¬ 0 < prec := of_decide_eq_false ht
    clear ht
    have hfin : fracF D nd dp prec = [] := by unfold fracF; rw [if_neg hp]
    have HF := Lib.hid hfin
    clear hfin
    go_wp2
    exact HP.out _ _ (by rw [HF.out, List.append_nil]; exact hb1) (Grew.refl _ _ _)
  | true =>
    have hp : 0 < prec := of_decide_eq_true ht
    clear ht
    obtain ⟨z, hz⟩ : ∃ z : Nat, min prec (max 0 (-dp)) = (z : Int) := ⟨(min prec (max 0 (-dp))).toNat, by omega⟩
    have hz1 : (z : Int) ≤ prec := by omega
    have hz2 : lzF dp prec = z := hz
    obtain ⟨o, ho⟩ : ∃ o : Int, dp + (z : Int) = o := ⟨_, rfl⟩
    have ho1 : o ≤ 20000 := by omega
    have ho2 : -20000 ≤ o := by omega
    obtain ⟨m, hm⟩ : ∃ m : Nat, min (prec - (z : Int)) (max 0 ((nd : Int) - o)) = (m : Int) := ⟨(min (prec - (z : Int)) (max 0 ((nd : Int) - o))).toNat, by omega⟩
    have hm1 : (z : Int) + m ≤ prec := by omega
    have hm2 : 0 < m → 0 ≤ o ∧ o + m ≤ nd := by omega
    have hm3 : midF nd dp prec = m := by unfold midF; rw [hz2, ho]; exact hm
    obtain ⟨y, hy⟩ : ∃ y : Nat, max 0 (prec - (z : Int) - (m : Int)) = (y : Int) := ⟨(max 0 (prec - (z : Int) - (m : Int))).toNat, by omega⟩
    have hy1 : (z : Int) + m + y ≤ prec := by omega
    have hy3 : tzF nd dp prec = y := by unfold tzF; rw [hz2, hm3]; exact hy
    have hfin : fracF D nd dp prec = withX (withF (withX [46] 48 z) (fun i : Nat => D (o + (i : Int)).toNat) m) 48 y := by
      unfold fracF
      rw [if_pos hp, hz2, hm3, hy3, ho]
      rfl
    have HF := Lib.hid hfin
    clear hfin hz2 hm3 hy3
    have hlen : l2.length ≤ 1000000000000 := by omega
    obtain ⟨v0, hv0⟩ : ∃ v0, v0 = u0 := ⟨_, rfl⟩
    subst hv0
    go_wp2_with (at_builtin; refine wpList_push _ _ rfl rfl B _ _ 46 _ _ (by rfl) (by rfl) (by rfl) hb1 hlen hB1 ?_)
    intro v2 w2 hb2 hg2 _
    have hB2 : B ≤ w2.heap.size := Nat.le_trans hB1 hg2.below.size
    clear hb1 hlen
    go_wp2
    go_loopw [0, 240] (fun v i wr => ∃ k : Nat, k ≤ z ∧ i = .int .i64 k ∧ Bytes wr B v (withX (l2 ++ [46]) 48 k) ∧ Grew B wc v0 wr v) (fun _ i _ => z - (intOf i).toNat)
    case atStart => exact ⟨0, Nat.zero_le _, rfl, by rw [withX_zero]; exact hb2, hg2⟩
    case round =>
      clear hb2 hg2
      obtain ⟨k, hk, rfl, hbr, hgr⟩ := hrel
      have hBr : B ≤ wr.heap.size := Nat.le_trans hB1 hgr.below.size
      have hlen : (withX (l2 ++ [46]) 48 k).length ≤ 1000000000000 := by rw [withX_length, List.length_append, List.length_singleton]; omega
      by_cases hlt : k < z
      · go_wp2_with (at_builtin; refine wpList_push _ _ rfl rfl B _ _ 48 _ _ (by rfl) (by rfl) (by rfl) hbr hlen hBr ?_)
        intro v3 w3 hb3 hg3 _
        have hb4 : Bytes w3 B v3 (withX (l2 ++ [46]) 48 (k + 1)) := by rw [withX_succ]; exact hb3
        have hg4 := hgr.trans hg3
        clear hb3 hg3 hbr hgr hlen hBr
        go_wp2
        go_roundw
        case rel => exact ⟨k + 1, by omega, by go_num, hb4, hg4⟩
        case measure => simp [intOf]; omega
      · obtain rfl : z = k := by omega
        clear hk hlt
        obtain ⟨l3, hl3⟩ : ∃ l3, withX (l2 ++ [46]) 48 z = l3 := ⟨_, rfl⟩
        have hl3' : l3.length ≤ 1000000000 := by rw [← hl3, withX_length, List.length_append, List.length_singleton]; omega
        rw [hl3] at hbr
        have HL3 := Lib.hid hl3
        clear hl3 hlen
        go_wp2
        go_loopw [0, 247] (fun v i wr => ∃ k : Nat, k ≤ m ∧ i = .int .i64 k ∧ Bytes wr B v (withF l3 (fun i : Nat => D (o + (i : Int)).toNat) k) ∧ Grew B wc v0 wr v) (fun _ i _ => m - (intOf i).toNat)
        case atStart => exact ⟨0, Nat.zero_le _, rfl, by rw [withF_zero]; exact hbr, hgr⟩
        case round =>
          clear hbr hgr
          obtain ⟨k, hk, rfl, hbr, hgr⟩ := hrel
          have hBr : B ≤ wr.heap.size := Nat.le_trans hB1 hgr.below.size
          have hlen : (withF l3 (fun i : Nat => D (o + (i : Int)).toNat) k).length ≤ 1000000000000 := by rw [withF_length]; omega
          by_cases hlt : k < m
          · obtain ⟨o0, om⟩ := hm2 (by omega)
            obtain ⟨x, hx⟩ : ∃ x : Nat, o + (k : Int) = (x : Int) := ⟨(o + (k : Int)).toNat, by omega⟩
            have hx1 : x < nd := by omega
            obtain ⟨hse, hc1, hne1⟩ := HC.out (Or.inl (by omega))
            subst hse
            have hck := (hgr.cells hc1 hne1).cell (i := x) (by omega)
            have hDx : D (o + (k : Int)).toNat = D x := by rw [hx, Int.toNat_natCast]
            have HDX := Lib.hid hDx
            clear hDx
            unfold byteC at hck
            go_wp2_with (at_builtin; refine wpList_push _ _ rfl rfl B _ _ (D x) _ _ (by rfl) (by rfl) (by rfl) hbr hlen hBr ?_)
            intro v3 w3 hb3 hg3 _
            have hb4 : Bytes w3 B v3 (withF l3 (fun i : Nat => D (o + (i : Int)).toNat) (k + 1)) := by rw [withF_succ, HDX.out]; exact hb3
            have hg4 := hgr.trans hg3
            clear hb3 hg3 hbr hgr hlen hBr hck
            go_wp2
            go_roundw
            case rel => exact ⟨k + 1, by omega, by go_num, hb4, hg4⟩
            case measure => simp [intOf]; omega
          · obtain rfl : m = k := by omega
            clear hk hlt
            obtain ⟨l4, hl4⟩ : ∃ l4, withF l3 (fun i : Nat => D (o + (i : Int)).toNat) m = l4 := ⟨_, rfl⟩
            have hl4' : l4.length ≤ 2000000000 := by rw [← hl4, withF_length]; omega
            rw [hl4] at hbr
            have HL4 := Lib.hid hl4
            clear hl4 hlen
            go_wp2
            go_loopw [0, 261] (fun v i wr => ∃ k : Nat, k ≤ y ∧ i = .int .i64 k ∧ Bytes wr B v (withX l4 48 k) ∧ Grew B wc v0 wr v) (fun _ i _ => y - (intOf i).toNat)
            case atStart => exact ⟨0, Nat.zero_le _, rfl, by rw [withX_zero]; exact hbr, hgr⟩
            case round =>
              clear hbr hgr
              obtain ⟨k, hk, rfl, hbr, hgr⟩ := hrel
              have hBr : B ≤ wr.heap.size := Nat.le_trans hB1 hgr.below.size
              have hlen : (withX l4 48 k).length ≤ 1000000000000 := by rw [withX_length]; omega
              by_cases hlt : k < y
              · go_wp2_with (at_builtin; refine wpList_push _ _ rfl rfl B _ _ 48 _ _ (by rfl) (by rfl) (by rfl) hbr hlen hBr ?_)
                intro v3 w3 hb3 hg3 _
                have hb4 : Bytes w3 B v3 (withX l4 48 (k + 1)) := by rw [withX_succ]; exact hb3
                have hg4 := hgr.trans hg3
                clear hb3 hg3 hbr hgr hlen hBr
                go_wp2
                go_roundw
                case rel => exact ⟨k + 1, by omega, by go_num, hb4, hg4⟩
                case measure => simp [intOf]; omega
              · obtain rfl : y = k := by omega
                have hall : withX l4 48 y = l2 ++ fracF D nd dp prec := by
                  rw [HF.out, ← HL4.out, ← HL3.out]
                  simp [withX, withF]
                have HA := Lib.hid hall
                clear hall
                go_wp2
                exact HP.out _ _ (by rw [← HA.out]; exact hbr) hgr
end Go.Proofs.YtodihpaabkplhaaDoor
