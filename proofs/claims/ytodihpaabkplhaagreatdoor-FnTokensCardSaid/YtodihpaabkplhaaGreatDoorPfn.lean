/- floatBits: its two loops; all of it. -/
import Derived.Test.YtodihpaabkplhaaGreatDoorPfm
import Derived.Deep.LoopGhost
namespace Go.Proofs.YtodihpaabkplhaaGreatDoor
open Go.RowKit

def fl1 : Nat → Dec → Int → Dec × Int
  | 0, s, e => (s, e)
  | f + 1, s, e => if 0 < s.dp then fl1 f (rightD s (powT s.dp.toNat)) (e + powT s.dp.toNat) else (s, e)
def fl2 : Nat → Dec → Int → Dec × Int
  | 0, s, e => (s, e)
  | f + 1, s, e => if s.dp < 0 ∨ s.dp = 0 ∧ (s.d 0).toNat < 53 then fl2 f (leftD s (powT (-s.dp).toNat)) (e - powT (-s.dp).toNat) else (s, e)
theorem fl1_inv : ∀ (f : Nat) (s : Dec) (e : Int), Good s → Pot1 s ≤ f → -330 ≤ s.dp → s.dp ≤ 310 → Good (fl1 f s e).1 ∧ -330 ≤ (fl1 f s e).1.dp ∧ (fl1 f s e).1.dp ≤ 0 ∧ e ≤ (fl1 f s e).2 ∧ (fl1 f s e).2 ≤ e + 27 * f
  | 0, s, e, hs, hf, h1, h2 => by
    have : s.dp ≤ 0 := by unfold Pot1 at hf; omega
    exact ⟨hs, h1, this, Int.le_refl _, by simp [fl1]⟩
  | f + 1, s, e, hs, hf, h1, h2 => by
    rw [fl1]
    by_cases h : 0 < s.dp
    · rw [if_pos h]
      obtain ⟨p1, p2, p3, p4⟩ := pot1_step hs h
      obtain ⟨q1, q2, q3, q4, q5⟩ := fl1_inv f _ (e + powT s.dp.toNat) p4 (by omega) (by omega) (by omega)
      obtain ⟨w1, w2, _, _⟩ := powT_facts s.dp.toNat
      exact ⟨q1, q2, q3, by omega, by omega⟩
    · rw [if_neg h]
      exact ⟨hs, h1, (show s.dp ≤ 0 by omega), Int.le_refl _, by simp only; omega⟩
theorem fl2_inv : ∀ (f : Nat) (s : Dec) (e : Int), Good s → Pot s ≤ f → -330 ≤ s.dp → s.dp ≤ 19 → Good (fl2 f s e).1 ∧ -330 ≤ (fl2 f s e).1.dp ∧ (fl2 f s e).1.dp ≤ 19 ∧ (fl2 f s e).2 ≤ e ∧ e - Pot s ≤ (fl2 f s e).2
  | 0, s, e, hs, hf, h1, h2 => ⟨hs, h1, h2, Int.le_refl _, by simp only [fl2]; omega⟩
  | f + 1, s, e, hs, hf, h1, h2 => by
    rw [fl2]
    by_cases h : s.dp < 0 ∨ s.dp = 0 ∧ (s.d 0).toNat < 53
    · rw [if_pos h]
      obtain ⟨p1, p2, p3, p4⟩ := pot_step hs h
      obtain ⟨w1, w2, _, _⟩ := powT_facts (-s.dp).toNat
      obtain ⟨q1, q2, q3, q4, q5⟩ := fl2_inv f _ (e - powT (-s.dp).toNat) p4 (by omega) (by omega) (by omega)
      exact ⟨q1, q2, q3, by omega, by omega⟩
    · rw [if_neg h]
      exact ⟨hs, h1, h2, Int.le_refl _, by simp only; omega⟩
/-- Where it goes on, something is left to shift. -/
theorem pot_pos {s : Dec} (hs : Good s) (h : s.dp < 0 ∨ s.dp = 0 ∧ (s.d 0).toNat < 53) : 0 < Pot s := by
  have := (pot_step hs h).1
  obtain ⟨w1, w2, _, _⟩ := powT_facts (-s.dp).toNat
  omega

noncomputable def fbL1 : Code := (fbCode |> seqAt 11).getD .skip
noncomputable def fbL2 : Code := (fbCode |> seqAt 18).getD .skip
set_option maxRecDepth 100000 in
set_option maxHeartbeats 4000000 in
theorem fb_L2 (s : Dec) (hs : Good s) (e : Int) (he1 : 0 ≤ e) (he2 : e ≤ 19000) (hdp1 : -330 ≤ s.dp) (hdp2 : s.dp ≤ 0) : ∃ (x : Int) (ovf : Bool), U64 x ∧
    ∀ (sp : Spots) (b : Nat) (W w : World) (_ : Tab2 sp W) (_ : Below W.heap.size W w) (_ : W.heap.size ≤ b) (_ : DecAt w b s) (post : Ending → World → Prop) (u2 u3 u8 u9 u10 u11 u12 u13 u14 u15 u16 u17 u18 u19 u20 u21 u22 u23 u24 u25 u26 u27 u28 u29 u30 u31 u32 u33 u34 u35 u36 u37 u38 u39 u40 u41 u42 u43 u44 u45 u46 u47 u48 u49 u50 u51 u52 u53 u54 u55 u56 u57 u58 u59 u60 u61 u62 u63 u64 u65 u66 u67 u68 u69 u70 u71 u72 u73 u74 u75 u76 u77 u78 u79 u80 u81 u82 u83 u84 u85 u86 u87 u88 u89 u90 u91 u92 u93 u94 u95 u96 u97 u98 u99 u100 u101 u102 u103 u104 u105 u106 u107 u108 u109 u110 u111 u112 u113 u114 u115 u116 u117 u118 u119 u120 u121 u122 u123 u124 u125 u126 u127 u128 u129 u130 u131 u132 u133 u134 u135 u136 u137 u138 u139 u140 u141 u142 u143 u144 u145 u146 u147 u148 u149 u150 u151 u152 u153 u154 u155 u156 u157 u158 u159 u160 u161 u162 u163 u164 u165 u166 u167 u168 u169 u170 u171 u172 u173 u174 u175 u176 u177 u178 u179 u180 u181 u182 u183 u184 u185 u186 u187 u188 u189 u190 u191 u192 u193 u194 u195 u196 u197 u198 u199 u200 u201 u202 u203 u204 u205 u206 u207 u208 u209 u210 u211 u212 u213 u214 u215 u216 u217 u218 u219 u220 u221 u222 u223 u224 u225 u226 u227 u228 u229 u230 u231 u232 u233 u234 u235 u236 u237 u238 u239 u240 u241 u242 : Value)
      (_ : ∀ w', Below b w w' → post (.returned (.tuple #[.int .u64 x, .bool ovf])) w'),
      Code.wp Tryz.prog fbL2 (jumps (J1 Tryz.prog fbR0 fbR1 (bodyPost Tryz.prog Tryz.f59 post)) (bodyPost Tryz.prog Tryz.f59 post)) ⟨#[.pointer (some ⟨b, 0, none⟩), .pointer (some ⟨5, 0, none⟩), u2, u3, .int .u64 0, .bool false, .int .i64 e, .int .u64 0, u8, u9, u10, u11, u12, u13, u14, u15, u16, u17, u18, u19, u20, u21, u22, u23, u24, u25, u26, u27, u28, u29, u30, u31, u32, u33, u34, u35, u36, u37, u38, u39, u40, u41, u42, u43, u44, u45, u46, u47, u48, u49, u50, u51, u52, u53, u54, u55, u56, u57, u58, u59, u60, u61, u62, u63, u64, u65, u66, u67, u68, u69, u70, u71, u72, u73, u74, u75, u76, u77, u78, u79, u80, u81, u82, u83, u84, u85, u86, u87, u88, u89, u90, u91, u92, u93, u94, u95, u96, u97, u98, u99, u100, u101, u102, u103, u104, u105, u106, u107, u108, u109, u110, u111, u112, u113, u114, u115, u116, u117, u118, u119, u120, u121, u122, u123, u124, u125, u126, u127, u128, u129, u130, u131, u132, u133, u134, u135, u136, u137, u138, u139, u140, u141, u142, u143, u144, u145, u146, u147, u148, u149, u150, u151, u152, u153, u154, u155, u156, u157, u158, u159, u160, u161, u162, u163, u164, u165, u166, u167, u168, u169, u170, u171, u172, u173, u174, u175, u176, u177, u178, u179, u180, u181, u182, u183, u184, u185, u186, u187, u188, u189, u190, u191, u192, u193, u194, u195, u196, u197, u198, u199, u200, u201, u202, u203, u204, u205, u206, u207, u208, u209, u210, u211, u212, u213, u214, u215, u216, u217, u218, u219, u220, u221, u222, u223, u224, u225, u226, u227, u228, u229, u230, u231, u232, u233, u234, u235, u236, u237, u238, u239, u240, u241, u242], []⟩ w := by
  obtain ⟨g1, g2, g3, g4, g5⟩ := fl2_inv (Pot s) s e hs (Nat.le_refl _) (by omega) (by omega)
  have hP := Pot_le (s := s) (by omega)
  obtain ⟨⟨s2, e2⟩, hR⟩ : ∃ R, fl2 (Pot s) s e = R := ⟨_, rfl⟩
  rw [hR] at g1 g2 g3 g4 g5
  simp only at g1 g2 g3 g4 g5
  obtain ⟨x, ovf, hx, hB⟩ := fb_tail s2 g1 e2 (by omega) (by omega) (by omega) (by omega)
  refine ⟨x, ovf, hx, ?_⟩
  intro sp b W w T hW hb hd post u2 u3 u8 u9 u10 u11 u12 u13 u14 u15 u16 u17 u18 u19 u20 u21 u22 u23 u24 u25 u26 u27 u28 u29 u30 u31 u32 u33 u34 u35 u36 u37 u38 u39 u40 u41 u42 u43 u44 u45 u46 u47 u48 u49 u50 u51 u52 u53 u54 u55 u56 u57 u58 u59 u60 u61 u62 u63 u64 u65 u66 u67 u68 u69 u70 u71 u72 u73 u74 u75 u76 u77 u78 u79 u80 u81 u82 u83 u84 u85 u86 u87 u88 u89 u90 u91 u92 u93 u94 u95 u96 u97 u98 u99 u100 u101 u102 u103 u104 u105 u106 u107 u108 u109 u110 u111 u112 u113 u114 u115 u116 u117 u118 u119 u120 u121 u122 u123 u124 u125 u126 u127 u128 u129 u130 u131 u132 u133 u134 u135 u136 u137 u138 u139 u140 u141 u142 u143 u144 u145 u146 u147 u148 u149 u150 u151 u152 u153 u154 u155 u156 u157 u158 u159 u160 u161 u162 u163 u164 u165 u166 u167 u168 u169 u170 u171 u172 u173 u174 u175 u176 u177 u178 u179 u180 u181 u182 u183 u184 u185 u186 u187 u188 u189 u190 u191 u192 u193 u194 u195 u196 u197 u198 u199 u200 u201 u202 u203 u204 u205 u206 u207 u208 u209 u210 u211 u212 u213 u214 u215 u216 u217 u218 u219 u220 u221 u222 u223 u224 u225 u226 u227 u228 u229 u230 u231 u232 u233 u234 u235 u236 u237 u238 u239 u240 u241 u242 hpost
  have HPOST := Lib.hid hpost
  have HB := Lib.hid hB
  have HT := Lib.hid T
  have HW := Lib.hid hW
  have HS := Lib.hid hs
  clear hpost hx T hW hs hB g1
  conv => arg 2; whnf
  conv => arg 4; dsimp only
  go_upto_block 2 with fail
  rename_i K0 hK0
  have HK := Lib.hid hK0
  clear hK0
  go_wp2_with fail
  go_loopg [6, 9] (Pot s) (fun f ve vn wr => ∃ (s' : Dec) (e' : Int), Pot s' ≤ f ∧ ve = .int .i64 e' ∧ e' ≤ e ∧ e - Pot s ≤ e' - Pot s' ∧ -330 ≤ s'.dp ∧ s'.dp ≤ 19 ∧ Hid (Good s') ∧ Hid (fl2 f s' e' = (s2, e2)) ∧ DecAt wr b s' ∧ Hid (Below b w wr))
  case atStart => exact ⟨s, e, Nat.le_refl _, rfl, Int.le_refl _, by omega, by omega, by omega, HS, hR, hd, Below.refl _ _⟩
  case round =>
    clear hd hR
    obtain ⟨s', e', hp, rfl, b1, b2, b3, b4, hg, hl, hd, hB⟩ := hrel
    have hTr := HT.out.below (HW.out.trans (hB.out.mono hb))
    have c1 := hd.hdp
    have cd := hd.dig (i := 0) (by omega)
    have hd0 := hg.out.d0
    by_cases hc : s'.dp < 0 ∨ s'.dp = 0 ∧ (s'.d 0).toNat < 53
    · obtain ⟨p1, p2, p3, p4⟩ := pot_step hg.out hc
      obtain ⟨q1, q2, q3, q4⟩ := powT_facts (-s'.dp).toNat
      obtain ⟨f, rfl⟩ : ∃ f, gk = f + 1 := ⟨gk - 1, by have := pot_pos hg.out hc; omega⟩
      have hl0 := hl.out
      rw [fl2, if_pos hc] at hl0
      have HL := Lib.hid hl0
      clear hl hl0
      obtain ⟨p, hpp⟩ : ∃ p : Nat, -s'.dp = p := ⟨(-s'.dp).toNat, by omega⟩
      have hdpp : s'.dp = -(p : Int) := by omega
      rw [hdpp] at c1
      have htn : (-s'.dp).toNat = p := by omega
      rw [htn] at q1 q2 q3 q4 p1 p2 p3 p4 HL
      obtain ⟨n, hn⟩ : ∃ n, powT p = n := ⟨_, rfl⟩
      rw [hn] at q1 q2 q4 p1 p2 p3 p4 HL
      have hsh := fun k => shift_any sp.cb sp.co b (n : Int) s' W (wr.drewN k) (hd.drewN k) hg.out HT.out.tabs (Below.drewN (HW.out.trans (hB.out.mono hb)) k) hb (by omega) (by omega) (by omega) (by omega)
      rw [shiftD_pos s' q1 (by omega)] at hsh
      have HSH := Lib.hid hsh
      have cpow := hTr.pow
      clear hsh
      have hcc : p ≠ 0 ∨ p = 0 ∧ (s'.d 0).toNat < 53 := by omega
      clear hc hd0 cd
      have hrel : ∀ wx, DecAt wx b (leftD s' n) → Below b wr wx → ∃ (s'' : Dec) (e'' : Int), Pot s'' ≤ f ∧ Value.int .i64 (e' - (n : Int)) = .int .i64 e'' ∧ e'' ≤ e ∧ e - Pot s ≤ e'' - Pot s'' ∧ -330 ≤ s''.dp ∧ s''.dp ≤ 19 ∧ Hid (Good s'') ∧ Hid (fl2 f s'' e'' = (s2, e2)) ∧ DecAt wx b s'' ∧ Hid (Below b w wx) :=
        fun wx h1 h2 => ⟨leftD s' n, e' - n, by omega, rfl, by omega, by omega, by omega, by omega, p4, HL.out, h1, hB.out.trans h2⟩
      have HREL := Lib.hid hrel
      have he3 : -2000 ≤ e' := by omega
      have he4 : e' ≤ 19000 := by omega
      clear hrel p1 p2 p3 p4 b1 b2 hdpp
      rcases hcc with hp0 | ⟨rfl, h53⟩
      · have hneg : -(p : Int) < 0 := by omega
        rcases Nat.lt_or_ge p 9 with h9 | h9
        · have cp := hTr.powc p h9
          rw [hn] at cp
          have h9' : ¬ (9 : Int) ≤ (p : Int) := by omega
          have hp9 : (p : Int) < 9 := by omega
          clear hn q4
          go_wp2_with fail
          go_quiet (fail)
          go_wp2_with fail
          go_quiet (fail)
          go_wp2_with fail
          refine (HSH.out _).mono ?_
          rintro en w2 ⟨rfl, hd2, hb2⟩
          go_wp2_with fail
          go_roundg f
          case measure => omega
          case rel => exact HREL.out _ hd2 ((Below.drewN (Below.refl _ _) _).trans hb2)
        · have e27 := q4 h9
          subst e27
          have h9' : (9 : Int) ≤ (p : Int) := by omega
          clear hn q4
          go_wp2_with fail
          go_quiet (fail)
          go_wp2_with fail
          refine (HSH.out _).mono ?_
          rintro en w2 ⟨rfl, hd2, hb2⟩
          go_wp2_with fail
          go_roundg f
          case measure => omega
          case rel => exact HREL.out _ hd2 ((Below.drewN (Below.refl _ _) _).trans hb2)
      · have cp : wr.cell? ⟨sp.pb, sp.po, none⟩ = _ := hTr.powc 0 (by omega)
        rw [hn] at cp
        have cd := hd.dig (i := 0) (by omega)
        have h53' : ((s'.d 0).toNat : Int) < 53 := by omega
        clear hn q4
        go_wp2_with fail
        go_quiet (fail)
        go_wp2_with fail
        go_quiet (fail)
        go_wp2_with fail
        refine (HSH.out _).mono ?_
        rintro en w2 ⟨rfl, hd2, hb2⟩
        go_wp2_with fail
        go_roundg f
        case measure => omega
        case rel => exact HREL.out _ hd2 ((Below.drewN (Below.refl _ _) _).trans hb2)
    · have hfin : (s', e') = (s2, e2) := by
        have hl0 := hl.out
        cases gk with
        | zero => exact hl0
        | succ f => rw [fl2, if_neg hc] at hl0; exact hl0
      have e1 : s' = s2 := congrArg Prod.fst hfin
      have e2' : e' = e2 := congrArg Prod.snd hfin
      subst e1 e2'
      clear hl hfin
      have HC := Lib.hid hc
      rcases Int.lt_or_le 0 s'.dp with hp0 | hp0
      · have hn0 : ¬ s'.dp < 0 := by omega
        have hne : (s'.dp == 0) = false := by rw [beq_eq_false_iff_ne]; omega
        clear hc
        go_wp2_with fail
        refine HK.out _ _ ?_
        exact HB.out sp b W _ HT.out (HW.out.trans (hB.out.mono hb)) hb hd post _ _ _ _ _ _ _ _ _ _ _ _ _ _ _ _ _ _ _ _ _ _ _ _ _ _ _ _ _ _ _ _ _ _ _ _ _ _ _ _ _ _ _ _ _ _ _ _ _ _ _ _ _ _ _ _ _ _ _ _ _ _ _ _ _ _ _ _ _ _ _ _ _ _ _ _ _ _ _ _ _ _ _ _ _ _ _ _ _ _ _ _ _ _ _ _ _ _ _ _ _ _ _ _ _ _ _ _ _ _ _ _ _ _ _ _ _ _ _ _ _ _ _ _ _ _ _ _ _ _ _ _ _ _ _ _ _ _ _ _ _ _ _ _ _ _ _ _ _ _ _ _ _ _ _ _ _ _ _ _ _ _ _ _ _ _ _ _ _ _ _ _ _ _ _ _ _ _ _ _ _ _ _ _ _ _ _ _ _ _ _ _ _ _ _ _ _ _ _ _ _ _ _ _ _ _ _ _ _ _ _ _ _ _ _ _ _ _ _ _ _ _ _ _ _ _ _ _ _ _ _ _ _ _ _ _ _ (fun w' h => HPOST.out w' (hB.out.trans h))
      · have hz : s'.dp = 0 := by omega
        have h53 : ¬ ((s'.d 0).toNat : Int) < 53 := by omega
        rw [hz] at c1
        clear hc hz hp0
        go_wp2_with fail
        refine HK.out _ _ ?_
        exact HB.out sp b W _ HT.out (HW.out.trans (hB.out.mono hb)) hb hd post _ _ _ _ _ _ _ _ _ _ _ _ _ _ _ _ _ _ _ _ _ _ _ _ _ _ _ _ _ _ _ _ _ _ _ _ _ _ _ _ _ _ _ _ _ _ _ _ _ _ _ _ _ _ _ _ _ _ _ _ _ _ _ _ _ _ _ _ _ _ _ _ _ _ _ _ _ _ _ _ _ _ _ _ _ _ _ _ _ _ _ _ _ _ _ _ _ _ _ _ _ _ _ _ _ _ _ _ _ _ _ _ _ _ _ _ _ _ _ _ _ _ _ _ _ _ _ _ _ _ _ _ _ _ _ _ _ _ _ _ _ _ _ _ _ _ _ _ _ _ _ _ _ _ _ _ _ _ _ _ _ _ _ _ _ _ _ _ _ _ _ _ _ _ _ _ _ _ _ _ _ _ _ _ _ _ _ _ _ _ _ _ _ _ _ _ _ _ _ _ _ _ _ _ _ _ _ _ _ _ _ _ _ _ _ _ _ _ _ _ _ _ _ _ _ _ _ _ _ _ _ _ _ _ _ _ _ (fun w' h => HPOST.out w' (hB.out.trans h))
end Go.Proofs.YtodihpaabkplhaaGreatDoor
