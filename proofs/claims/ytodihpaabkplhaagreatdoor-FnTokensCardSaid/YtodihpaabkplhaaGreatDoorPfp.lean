/- floatBits, whole. -/
import Derived.Test.YtodihpaabkplhaaGreatDoorPfn
import Derived.Test.YtodihpaabkplhaaGreatDoorPdd
namespace Go.Proofs.YtodihpaabkplhaaGreatDoor
open Go.RowKit

set_option maxRecDepth 100000 in
set_option maxHeartbeats 4000000 in
theorem fb_L1 (s : Dec) (hs : Good s) (hdp1 : -330 ≤ s.dp) (hdp2 : s.dp ≤ 310) : ∃ (x : Int) (ovf : Bool), U64 x ∧
    ∀ (sp : Spots) (b : Nat) (W w : World) (_ : Tab2 sp W) (_ : Below W.heap.size W w) (_ : W.heap.size ≤ b) (_ : DecAt w b s) (post : Ending → World → Prop) (e : Int) (_ : e = 0) (u2 u3 u8 u9 u10 u11 u12 u13 u14 u15 u16 u17 u18 u19 u20 u21 u22 u23 u24 u25 u26 u27 u28 u29 u30 u31 u32 u33 u34 u35 u36 u37 u38 u39 u40 u41 u42 u43 u44 u45 u46 u47 u48 u49 u50 u51 u52 u53 u54 u55 u56 u57 u58 u59 u60 u61 u62 u63 u64 u65 u66 u67 u68 u69 u70 u71 u72 u73 u74 u75 u76 u77 u78 u79 u80 u81 u82 u83 u84 u85 u86 u87 u88 u89 u90 u91 u92 u93 u94 u95 u96 u97 u98 u99 u100 u101 u102 u103 u104 u105 u106 u107 u108 u109 u110 u111 u112 u113 u114 u115 u116 u117 u118 u119 u120 u121 u122 u123 u124 u125 u126 u127 u128 u129 u130 u131 u132 u133 u134 u135 u136 u137 u138 u139 u140 u141 u142 u143 u144 u145 u146 u147 u148 u149 u150 u151 u152 u153 u154 u155 u156 u157 u158 u159 u160 u161 u162 u163 u164 u165 u166 u167 u168 u169 u170 u171 u172 u173 u174 u175 u176 u177 u178 u179 u180 u181 u182 u183 u184 u185 u186 u187 u188 u189 u190 u191 u192 u193 u194 u195 u196 u197 u198 u199 u200 u201 u202 u203 u204 u205 u206 u207 u208 u209 u210 u211 u212 u213 u214 u215 u216 u217 u218 u219 u220 u221 u222 u223 u224 u225 u226 u227 u228 u229 u230 u231 u232 u233 u234 u235 u236 u237 u238 u239 u240 u241 u242 : Value)
      (_ : ∀ w', Below b w w' → post (.returned (.tuple #[.int .u64 x, .bool ovf])) w'),
      Code.wp Tryz.prog fbL1 (jumps (J1 Tryz.prog fbR0 fbR1 (bodyPost Tryz.prog Tryz.f59 post)) (bodyPost Tryz.prog Tryz.f59 post)) ⟨#[.pointer (some ⟨b, 0, none⟩), .pointer (some ⟨5, 0, none⟩), u2, u3, .int .u64 0, .bool false, .int .i64 e, .int .u64 0, u8, u9, u10, u11, u12, u13, u14, u15, u16, u17, u18, u19, u20, u21, u22, u23, u24, u25, u26, u27, u28, u29, u30, u31, u32, u33, u34, u35, u36, u37, u38, u39, u40, u41, u42, u43, u44, u45, u46, u47, u48, u49, u50, u51, u52, u53, u54, u55, u56, u57, u58, u59, u60, u61, u62, u63, u64, u65, u66, u67, u68, u69, u70, u71, u72, u73, u74, u75, u76, u77, u78, u79, u80, u81, u82, u83, u84, u85, u86, u87, u88, u89, u90, u91, u92, u93, u94, u95, u96, u97, u98, u99, u100, u101, u102, u103, u104, u105, u106, u107, u108, u109, u110, u111, u112, u113, u114, u115, u116, u117, u118, u119, u120, u121, u122, u123, u124, u125, u126, u127, u128, u129, u130, u131, u132, u133, u134, u135, u136, u137, u138, u139, u140, u141, u142, u143, u144, u145, u146, u147, u148, u149, u150, u151, u152, u153, u154, u155, u156, u157, u158, u159, u160, u161, u162, u163, u164, u165, u166, u167, u168, u169, u170, u171, u172, u173, u174, u175, u176, u177, u178, u179, u180, u181, u182, u183, u184, u185, u186, u187, u188, u189, u190, u191, u192, u193, u194, u195, u196, u197, u198, u199, u200, u201, u202, u203, u204, u205, u206, u207, u208, u209, u210, u211, u212, u213, u214, u215, u216, u217, u218, u219, u220, u221, u222, u223, u224, u225, u226, u227, u228, u229, u230, u231, u232, u233, u234, u235, u236, u237, u238, u239, u240, u241, u242], []⟩ w := by
  have hP : Pot1 s ≤ 621 := by unfold Pot1; split <;> omega
  obtain ⟨g1, g2, g3, g4, g5⟩ := fl1_inv (Pot1 s) s 0 hs (Nat.le_refl _) (by omega) (by omega)
  obtain ⟨⟨s2, e2⟩, hR⟩ : ∃ R, fl1 (Pot1 s) s 0 = R := ⟨_, rfl⟩
  rw [hR] at g1 g2 g3 g4 g5
  simp only at g1 g2 g3 g4 g5
  obtain ⟨x, ovf, hx, hB⟩ := fb_L2 s2 g1 e2 (by omega) (by omega) (by omega) (by omega)
  refine ⟨x, ovf, hx, ?_⟩
  intro sp b W w T hW hb hd post e he0 u2 u3 u8 u9 u10 u11 u12 u13 u14 u15 u16 u17 u18 u19 u20 u21 u22 u23 u24 u25 u26 u27 u28 u29 u30 u31 u32 u33 u34 u35 u36 u37 u38 u39 u40 u41 u42 u43 u44 u45 u46 u47 u48 u49 u50 u51 u52 u53 u54 u55 u56 u57 u58 u59 u60 u61 u62 u63 u64 u65 u66 u67 u68 u69 u70 u71 u72 u73 u74 u75 u76 u77 u78 u79 u80 u81 u82 u83 u84 u85 u86 u87 u88 u89 u90 u91 u92 u93 u94 u95 u96 u97 u98 u99 u100 u101 u102 u103 u104 u105 u106 u107 u108 u109 u110 u111 u112 u113 u114 u115 u116 u117 u118 u119 u120 u121 u122 u123 u124 u125 u126 u127 u128 u129 u130 u131 u132 u133 u134 u135 u136 u137 u138 u139 u140 u141 u142 u143 u144 u145 u146 u147 u148 u149 u150 u151 u152 u153 u154 u155 u156 u157 u158 u159 u160 u161 u162 u163 u164 u165 u166 u167 u168 u169 u170 u171 u172 u173 u174 u175 u176 u177 u178 u179 u180 u181 u182 u183 u184 u185 u186 u187 u188 u189 u190 u191 u192 u193 u194 u195 u196 u197 u198 u199 u200 u201 u202 u203 u204 u205 u206 u207 u208 u209 u210 u211 u212 u213 u214 u215 u216 u217 u218 u219 u220 u221 u222 u223 u224 u225 u226 u227 u228 u229 u230 u231 u232 u233 u234 u235 u236 u237 u238 u239 u240 u241 u242 hpost
  have HPOST := Lib.hid hpost
  have HB := Lib.hid hB
  have HT := Lib.hid T
  have HW := Lib.hid hW
  have HS := Lib.hid hs
  clear hpost hx T hW hs hB g1
  conv => arg 2; whnf
  conv => arg 4; dsimp only
  go_upto_block 0 with fail
  rename_i K0 hK0
  have HK := Lib.hid hK0
  clear hK0
  go_wp2_with fail
  go_loopg [6, 8] (Pot1 s) (fun f ve vn wr => ∃ (s' : Dec) (e' : Int), Pot1 s' ≤ f ∧ f ≤ 621 ∧ ve = .int .i64 e' ∧ 0 ≤ e' ∧ e' + 27 * f ≤ 27 * 621 ∧ -330 ≤ s'.dp ∧ s'.dp ≤ 310 ∧ Hid (Good s') ∧ Hid (fl1 f s' e' = (s2, e2)) ∧ DecAt wr b s' ∧ Hid (Below b w wr))
  case atStart => exact ⟨s, e, Nat.le_refl _, hP, rfl, by omega, by omega, by omega, by omega, HS, by rw [he0]; exact hR, hd, Below.refl _ _⟩
  case round =>
    clear hd hR
    obtain ⟨s', e', hp, hf, rfl, b1, b2, b3, b4, hg, hl, hd, hB⟩ := hrel
    have hTr := HT.out.below (HW.out.trans (hB.out.mono hb))
    have c1 := hd.hdp
    by_cases hc : 0 < s'.dp
    · obtain ⟨p1, p2, p3, p4⟩ := pot1_step hg.out hc
      obtain ⟨q1, q2, q3, q4⟩ := powT_facts s'.dp.toNat
      obtain ⟨f, rfl⟩ : ∃ f, gk = f + 1 := ⟨gk - 1, by unfold Pot1 at hp; omega⟩
      have hl0 := hl.out
      rw [fl1, if_pos hc] at hl0
      have HL := Lib.hid hl0
      clear hl hl0
      obtain ⟨p, hpp⟩ : ∃ p : Nat, s'.dp = p := ⟨s'.dp.toNat, by omega⟩
      rw [hpp] at c1
      have htn : s'.dp.toNat = p := by omega
      rw [htn] at q1 q2 q3 q4 p1 p2 p3 p4 HL
      obtain ⟨n, hn⟩ : ∃ n, powT p = n := ⟨_, rfl⟩
      rw [hn] at q1 q2 q4 p1 p2 p3 p4 HL
      have hsh := fun k => shift_any sp.cb sp.co b (-(n : Int)) s' W (wr.drewN k) (hd.drewN k) hg.out HT.out.tabs (Below.drewN (HW.out.trans (hB.out.mono hb)) k) hb (by omega) (by omega) (by omega) (by omega)
      rw [shiftD_neg s' q1 (by omega)] at hsh
      have HSH := Lib.hid hsh
      have cpow := hTr.pow
      clear hsh
      have hrel : ∀ wx, DecAt wx b (rightD s' n) → Below b wr wx → ∃ (s'' : Dec) (e'' : Int), Pot1 s'' ≤ f ∧ f ≤ 621 ∧ Value.int .i64 (e' + (n : Int)) = .int .i64 e'' ∧ 0 ≤ e'' ∧ e'' + 27 * f ≤ 27 * 621 ∧ -330 ≤ s''.dp ∧ s''.dp ≤ 310 ∧ Hid (Good s'') ∧ Hid (fl1 f s'' e'' = (s2, e2)) ∧ DecAt wx b s'' ∧ Hid (Below b w wx) :=
        fun wx h1 h2 => ⟨rightD s' n, e' + n, by omega, by omega, rfl, by omega, by omega, by omega, by omega, p4, HL.out, h1, hB.out.trans h2⟩
      have HREL := Lib.hid hrel
      have he4 : e' ≤ 19000 := by omega
      have hp0 : (0 : Int) < (p : Int) := by omega
      clear hrel p1 p2 p3 p4 b2 hpp hc
      rcases Nat.lt_or_ge p 9 with h9 | h9
      · have cp := hTr.powc p h9
        rw [hn] at cp
        have h9' : ¬ (9 : Int) ≤ (p : Int) := by omega
        have hp9 : (p : Int) < 9 := by omega
        clear hn q4
        go_wp2_with fail
        go_quiet (fail)
        go_wp2_with fail
        go_quiet (fail)
        go_wp2_with fail
        refine (HSH.out _).mono ?_
        rintro en w2 ⟨rfl, hd2, hb2⟩
        go_wp2_with fail
        go_roundg f
        case measure => omega
        case rel => exact HREL.out _ hd2 ((Below.drewN (Below.refl _ _) _).trans hb2)
      · have e27 := q4 h9
        subst e27
        have h9' : (9 : Int) ≤ (p : Int) := by omega
        clear hn q4
        go_wp2_with fail
        go_quiet (fail)
        go_wp2_with fail
        refine (HSH.out _).mono ?_
        rintro en w2 ⟨rfl, hd2, hb2⟩
        go_wp2_with fail
        go_roundg f
        case measure => omega
        case rel => exact HREL.out _ hd2 ((Below.drewN (Below.refl _ _) _).trans hb2)
    · have hfin : (s', e') = (s2, e2) := by
        have hl0 := hl.out
        cases gk with
        | zero => exact hl0
        | succ f => rw [fl1, if_neg hc] at hl0; exact hl0
      have e1 : s' = s2 := congrArg Prod.fst hfin
      have e2' : e' = e2 := congrArg Prod.snd hfin
      subst e1 e2'
      clear hl hfin
      go_wp2_with fail
      refine HK.out _ _ ?_
      exact HB.out sp b W _ HT.out (HW.out.trans (hB.out.mono hb)) hb hd post _ _ _ _ _ _ _ _ _ _ _ _ _ _ _ _ _ _ _ _ _ _ _ _ _ _ _ _ _ _ _ _ _ _ _ _ _ _ _ _ _ _ _ _ _ _ _ _ _ _ _ _ _ _ _ _ _ _ _ _ _ _ _ _ _ _ _ _ _ _ _ _ _ _ _ _ _ _ _ _ _ _ _ _ _ _ _ _ _ _ _ _ _ _ _ _ _ _ _ _ _ _ _ _ _ _ _ _ _ _ _ _ _ _ _ _ _ _ _ _ _ _ _ _ _ _ _ _ _ _ _ _ _ _ _ _ _ _ _ _ _ _ _ _ _ _ _ _ _ _ _ _ _ _ _ _ _ _ _ _ _ _ _ _ _ _ _ _ _ _ _ _ _ _ _ _ _ _ _ _ _ _ _ _ _ _ _ _ _ _ _ _ _ _ _ _ _ _ _ _ _ _ _ _ _ _ _ _ _ _ _ _ _ _ _ _ _ _ _ _ _ _ _ _ _ _ _ _ _ _ _ _ _ _ _ _ _ (fun w' h => HPOST.out w' (hB.out.trans h))

set_option maxRecDepth 100000 in
set_option maxHeartbeats 4000000 in
theorem floatBits_any (D : Dec) (hD : SetOk D) : ∃ (x : Int) (ovf : Bool), U64 x ∧
    ∀ (sp : Spots) (b : Nat) (W w : World) (_ : Tab2 sp W) (_ : Below W.heap.size W w) (_ : W.heap.size ≤ b) (_ : DecAt w b D),
      Calls Tryz.prog 59 #[.pointer (some ⟨b, 0, none⟩), .pointer (some ⟨5, 0, none⟩)] w fun e w' => e = .returned (.tuple #[.int .u64 x, .bool ovf]) ∧ Below b w w' := by
  obtain ⟨h1, h2, h3, h4⟩ := hD
  rcases Nat.eq_zero_or_pos D.nd with hnd | hnd
  · refine ⟨_, false, u64_outI (0 : Nat) (-1023) D.neg, ?_⟩
    intro sp b W w T hW hb hd
    have T1 := T.below hW
    have i0 := T1.inf0
    have i1 := T1.inf1
    have i2 := T1.inf2
    have c0 := hd.hnd
    rw [hnd] at c0
    have c0' : w.cell? ⟨b, 800, none⟩ = some (.int .i64 0) := c0
    clear c0 hnd T1 T hW
    go_enter Tryz.func59, Tryz.ntmps59
    go_wp2_with fail
    refine wp_scope_two fb_l0 fb_l1 ?_
    go_wp2_with fail
    go_step3
    refine Or.inl ⟨rfl, ?_⟩
    exact fb_r0 b (-1023) 0 false D (by omega) (by omega) (by omega) _ _ _ _ _ _ _ _ _ _ _ _ _ _ _ _ _ _ _ _ _ _ _ _ _ _ _ _ _ _ _ _ _ _ _ _ _ _ _ _ _ _ _ _ _ _ _ _ _ _ _ _ _ _ _ _ _ _ _ _ _ _ _ _ _ _ _ _ _ _ _ _ _ _ _ _ _ _ _ _ _ _ _ _ _ _ _ _ _ _ _ _ _ _ _ _ _ _ _ _ _ _ _ _ _ _ _ _ _ _ _ _ _ _ _ _ _ _ _ _ _ _ _ _ _ _ _ _ _ _ _ _ _ _ _ _ _ _ _ _ _ _ _ _ _ _ _ _ _ _ _ _ _ _ _ _ _ _ _ _ _ _ _ _ _ _ _ _ _ _ _ _ _ _ _ _ _ _ _ _ _ _ _ _ _ _ _ _ _ _ _ _ _ _ _ _ _ _ _ _ _ _ _ _ _ _ _ _ _ _ _ _ _ _ _ _ _ _ _ _ _ _ _ _ _ _ _ _ _ _ _ _ _ _ _ _ _ _ _ hd i0 i1 i2 (fun w' h => ⟨rfl, h⟩)
  have hnd0 : ((D.nd : Int) == 0) = false := by rw [beq_eq_false_iff_ne]; omega
  rcases Int.lt_or_le 310 D.dp with h310 | h310
  · refine ⟨_, true, u64_outI 0 1024 D.neg, ?_⟩
    intro sp b W w T hW hb hd
    have T1 := T.below hW
    have i0 := T1.inf0
    have i1 := T1.inf1
    have i2 := T1.inf2
    have c0 := hd.hnd
    have c1 := hd.hdp
    clear T1 T hW
    go_enter Tryz.func59, Tryz.ntmps59
    go_wp2_with fail
    refine wp_scope_two fb_l0 fb_l1 ?_
    go_wp2_with fail
    go_step3
    refine Or.inr ⟨rfl, ?_⟩
    exact fb_r1 b D _ _ _ _ _ _ _ _ _ _ _ _ _ _ _ _ _ _ _ _ _ _ _ _ _ _ _ _ _ _ _ _ _ _ _ _ _ _ _ _ _ _ _ _ _ _ _ _ _ _ _ _ _ _ _ _ _ _ _ _ _ _ _ _ _ _ _ _ _ _ _ _ _ _ _ _ _ _ _ _ _ _ _ _ _ _ _ _ _ _ _ _ _ _ _ _ _ _ _ _ _ _ _ _ _ _ _ _ _ _ _ _ _ _ _ _ _ _ _ _ _ _ _ _ _ _ _ _ _ _ _ _ _ _ _ _ _ _ _ _ _ _ _ _ _ _ _ _ _ _ _ _ _ _ _ _ _ _ _ _ _ _ _ _ _ _ _ _ _ _ _ _ _ _ _ _ _ _ _ _ _ _ _ _ _ _ _ _ _ _ _ _ _ _ _ _ _ _ _ _ _ _ _ _ _ _ _ _ _ _ _ _ _ _ _ _ _ _ _ _ _ _ _ _ _ _ _ _ _ _ _ _ _ _ _ _ _ _ _ _ _ _ hd i0 i1 i2 (fun w' h => ⟨rfl, h⟩)
  rcases Int.lt_or_le D.dp (-330) with h330 | h330
  · refine ⟨_, false, u64_outI (0 : Nat) (-1023) D.neg, ?_⟩
    intro sp b W w T hW hb hd
    have T1 := T.below hW
    have i0 := T1.inf0
    have i1 := T1.inf1
    have i2 := T1.inf2
    have c0 := hd.hnd
    have c1 := hd.hdp
    clear T1 T hW
    go_enter Tryz.func59, Tryz.ntmps59
    go_wp2_with fail
    refine wp_scope_two fb_l0 fb_l1 ?_
    go_wp2_with fail
    go_step3
    refine Or.inl ⟨rfl, ?_⟩
    exact fb_r0 b (-1023) 0 false D (by omega) (by omega) (by omega) _ _ _ _ _ _ _ _ _ _ _ _ _ _ _ _ _ _ _ _ _ _ _ _ _ _ _ _ _ _ _ _ _ _ _ _ _ _ _ _ _ _ _ _ _ _ _ _ _ _ _ _ _ _ _ _ _ _ _ _ _ _ _ _ _ _ _ _ _ _ _ _ _ _ _ _ _ _ _ _ _ _ _ _ _ _ _ _ _ _ _ _ _ _ _ _ _ _ _ _ _ _ _ _ _ _ _ _ _ _ _ _ _ _ _ _ _ _ _ _ _ _ _ _ _ _ _ _ _ _ _ _ _ _ _ _ _ _ _ _ _ _ _ _ _ _ _ _ _ _ _ _ _ _ _ _ _ _ _ _ _ _ _ _ _ _ _ _ _ _ _ _ _ _ _ _ _ _ _ _ _ _ _ _ _ _ _ _ _ _ _ _ _ _ _ _ _ _ _ _ _ _ _ _ _ _ _ _ _ _ _ _ _ _ _ _ _ _ _ _ _ _ _ _ _ _ _ _ _ _ _ _ _ _ _ _ _ _ _ hd i0 i1 i2 (fun w' h => ⟨rfl, h⟩)
  have hg : Good D := ⟨h1, hnd, h2 hnd⟩
  obtain ⟨x, ovf, hx, hL⟩ := fb_L1 D hg h330 h310
  refine ⟨x, ovf, hx, ?_⟩
  intro sp b W w T hW hb hd
  have c0 := hd.hnd
  have c1 := hd.hdp
  have HT := Lib.hid T
  have HW := Lib.hid hW
  have HL := Lib.hid hL
  have HD := Lib.hid hd
  clear T hW hL hd h1 h2 hg hx
  go_enter Tryz.func59, Tryz.ntmps59
  go_wp2_with fail
  refine wp_scope_two fb_l0 fb_l1 ?_
  go_upto_region 10 with fail
  rename_i K0 hK0
  have HK := Lib.hid hK0
  clear hK0
  go_wp2_with fail
  refine HK.out _ _ ?_
  exact HL.out sp b W _ HT.out HW.out hb HD.out _ 0 rfl _ _ _ _ _ _ _ _ _ _ _ _ _ _ _ _ _ _ _ _ _ _ _ _ _ _ _ _ _ _ _ _ _ _ _ _ _ _ _ _ _ _ _ _ _ _ _ _ _ _ _ _ _ _ _ _ _ _ _ _ _ _ _ _ _ _ _ _ _ _ _ _ _ _ _ _ _ _ _ _ _ _ _ _ _ _ _ _ _ _ _ _ _ _ _ _ _ _ _ _ _ _ _ _ _ _ _ _ _ _ _ _ _ _ _ _ _ _ _ _ _ _ _ _ _ _ _ _ _ _ _ _ _ _ _ _ _ _ _ _ _ _ _ _ _ _ _ _ _ _ _ _ _ _ _ _ _ _ _ _ _ _ _ _ _ _ _ _ _ _ _ _ _ _ _ _ _ _ _ _ _ _ _ _ _ _ _ _ _ _ _ _ _ _ _ _ _ _ _ _ _ _ _ _ _ _ _ _ _ _ _ _ _ _ _ _ _ _ _ _ _ _ _ _ _ _ _ _ _ _ _ _ _ _ _ _ _ (fun w' h => ⟨rfl, h⟩)
end Go.Proofs.YtodihpaabkplhaaGreatDoor
