/- readFloat behind its digits: the exponent, and what is handed back. -/
import Derived.Test.YtodihpaabkplhaaGreatDoorPrd
import Derived.Test.YtodihpaabkplhaaGreatDoorCod
import Derived.Deep.DeepCutAuto
import Derived.Deep.CutBlock
import Derived.WalkMore
namespace Go.Proofs.YtodihpaabkplhaaGreatDoor
open Go.RowKit

theorem results_tmp7 {fn : Func} {a b c d e f g : Tmp} (h : fn.results = #[.tmp a, .tmp b, .tmp c, .tmp d, .tmp e, .tmp f, .tmp g]) (tmps : Array Value) (P : Program) (w : World) :
    (results fn tmps).run P w = .ok (.tuple #[tmps.getD a undef, tmps.getD b undef, tmps.getD c undef, tmps.getD d undef, tmps.getD e undef, tmps.getD f undef, tmps.getD g undef]) w := by
  simp [results, h]

/-- What readFloat hands back. -/
structure RF where
  m : Nat
  exp : Int
  neg : Bool
  tr : Bool
  i : Nat
  ok : Bool
def RF.val (r : RF) : Value := .tuple #[.int .u64 r.m, .int .i64 r.exp, .bool r.neg, .bool r.tr, .bool false, .int .i64 r.i, .bool r.ok]
def ReadsAs (S : ByteArray) (r : RF) : Prop := ∀ w : World, Calls Tryz.prog 52 #[.string S] w fun e w' => e = .returned r.val ∧ w' = w

def sgnI (c q : Nat) : Nat := if c = 43 ∨ c = 45 then q + 1 else q
def sgnB (c : Nat) : Bool := decide (c = 45)
def isE (c : Nat) : Prop := c = 101 ∨ c = 69
def RS.point (s : RS) : Int := if s.dot then s.dp else s.nd
def RS.expo (s : RS) (d : Int) : Int := if s.m = 0 then 0 else d - s.nm

/-- What the reading hands back, s being what the digits have told, p where they end. -/
inductive RRest (S : ByteArray) (neg : Bool) (s : RS) (p : Nat) : RF → Prop
  | nodig : s.dig = false → RRest S neg s p ⟨s.m, 0, neg, s.tr, p, false⟩
  | plain : s.dig = true → (p = S.size ∨ ¬ isE (ch S p)) → RRest S neg s p ⟨s.m, s.expo s.point, neg, s.tr, p, true⟩
  | short : s.dig = true → p + 1 = S.size → isE (ch S p) → RRest S neg s p ⟨s.m, 0, neg, s.tr, p + 1, false⟩
  | bad : s.dig = true → p + 1 < S.size → isE (ch S p) → (sgnI (ch S (p + 1)) (p + 1) = S.size ∨ ¬ digN (ch S (sgnI (ch S (p + 1)) (p + 1)))) → RRest S neg s p ⟨s.m, 0, neg, s.tr, sgnI (ch S (p + 1)) (p + 1), false⟩
  | exp {e : Nat} : s.dig = true → p + 1 < S.size → isE (ch S p) → Span digN S (sgnI (ch S (p + 1)) (p + 1)) e → sgnI (ch S (p + 1)) (p + 1) < e →
      RRest S neg s p ⟨s.m, s.expo (s.point + (eAt S (sgnI (ch S (p + 1)) (p + 1)) (e - sgnI (ch S (p + 1)) (p + 1)) : Nat) * (if sgnB (ch S (p + 1)) then -1 else 1)), neg, s.tr, e, true⟩
theorem sgnI_le (c q : Nat) : q ≤ sgnI c q ∧ sgnI c q ≤ q + 1 := by unfold sgnI; split <;> omega
theorem RRest.ex (S : ByteArray) (neg : Bool) (s : RS) (p j : Nat) (hp : p ≤ S.size) (hs : ROk s j) (hj : j ≤ 2000) : ∃ r, RRest S neg s p r ∧ r.m < 10000000000000000000 ∧ -200000 ≤ r.exp ∧ r.exp ≤ 200000 ∧ r.i ≤ S.size := by
  have hm := hs.m20
  have hpt : -2000 ≤ s.point ∧ s.point ≤ 2000 := by
    unfold RS.point
    have := hs.nd
    have := hs.d0
    have := hs.d1
    split <;> omega
  have hex : ∀ d : Int, -102100 ≤ d → d ≤ 102100 → -200000 ≤ s.expo d ∧ s.expo d ≤ 200000 := by
    intro d h1 h2
    unfold RS.expo
    have := hs.nm
    split <;> omega
  cases hd : s.dig with
  | false => exact ⟨_, .nodig hd, hm, by simp, by simp, hp⟩
  | true =>
    rcases Classical.em (p = S.size ∨ ¬ isE (ch S p)) with h1 | h1
    · have := hex s.point (by omega) (by omega)
      exact ⟨_, .plain hd h1, hm, this.1, this.2, hp⟩
    · have h2 : p < S.size := by
        rcases Nat.lt_or_ge p S.size with h | h
        · exact h
        · exact absurd (Or.inl (by omega)) h1
      have h3 : isE (ch S p) := Classical.byContradiction fun h => h1 (Or.inr h)
      rcases Nat.lt_or_ge (p + 1) S.size with h4 | h4
      · have hq := sgnI_le (ch S (p + 1)) (p + 1)
        obtain ⟨q, hqe⟩ : ∃ q, sgnI (ch S (p + 1)) (p + 1) = q := ⟨_, rfl⟩
        rw [hqe] at hq
        obtain ⟨e, he⟩ := span_ex digN S q (by omega)
        rcases Nat.lt_or_ge q e with h5 | h5
        · have hE := eAt_le S q (e - q) (fun j hj => he.all (q + j) (by omega) (by omega)) (e - q) (Nat.le_refl _)
          have := hex (s.point + (eAt S q (e - q) : Nat) * (if sgnB (ch S (p + 1)) then -1 else 1)) (by split <;> omega) (by split <;> omega)
          have hr := RRest.exp (neg := neg) (e := e) hd h4 h3 (by rw [hqe]; exact he) (by omega)
          rw [hqe] at hr
          exact ⟨_, hr, hm, this.1, this.2, he.end_le⟩
        · have : e = q := by have := he.le; omega
          subst this
          have hr := RRest.bad (neg := neg) hd h4 h3 (by rw [hqe]; exact he.stop)
          rw [hqe] at hr
          exact ⟨_, hr, hm, by simp, by simp, he.end_le⟩
      · exact ⟨_, .short hd (by omega) h3, hm, by simp, by simp, by simp only; omega⟩

noncomputable def rfTail : Code := (Tryz.f52.body.bind (seqAt 51)).getD .skip

theorem expo_facts (s : RS) (d E : Int) (h : s.expo d = E) : (s.m = 0 → E = 0) ∧ (s.m ≠ 0 → E = d - s.nm) := by
  unfold RS.expo at h
  constructor
  · intro e
    rw [if_pos e] at h
    exact h.symm
  · intro e
    rw [if_neg e] at h
    exact h.symm
/-- What lower makes of the byte at p. -/
theorem lower_at (S : ByteArray) (hS : Numeric S) (p : Nat) (hp : p < S.size) :
    ∃ y l : Nat, ch S p = y ∧ ((S[p]'hp).toNat : Int) = y ∧ (∀ w, Calls Tryz.prog 73 #[.int .u8 y] w fun e w' => e = .returned (.int .u8 (l : Int)) ∧ w' = w) ∧ ((isE (ch S p) → l = 101) ∧ (¬ isE (ch S p) → ((l : Int) == 101) = false)) := by
  have hn := hS.2 p hp
  refine ⟨ch S p, if ch S p = 69 then 101 else ch S p, rfl, ?_, fun w => lower_num _ w hn, ?_, ?_⟩
  · have := ch_eq S p hp
    omega
  · intro h
    unfold isE at h
    split
    · rfl
    · omega
  · intro h
    unfold isE at h
    rw [beq_eq_false_iff_ne]
    split <;> omega

set_option maxRecDepth 100000 in
set_option maxHeartbeats 4000000 in
theorem rf_nodig (S : ByteArray) (hS : Numeric S) (neg : Bool) (st : RS) (p j : Nat) (_ : p ≤ S.size) (hs : ROk st j) (_ : j ≤ 2000) (hd : st.dig = false)
    (w : World) (post : Ending → World → Prop) (u1 u18 u19 u20 u21 u22 u23 u24 u25 u26 u27 u28 u29 u30 u31 u32 u33 u34 u35 u36 u37 u38 u39 u40 u41 u42 u43 u44 u45 u46 u47 u48 u49 u50 u51 u52 u53 u54 u55 u56 u57 u58 u59 u60 u61 u62 u63 u64 u65 u66 u67 u68 u69 u70 u71 u72 u73 u74 u75 u76 u77 u78 u79 u80 u81 u82 u83 u84 u85 u86 u87 u88 u89 u90 u91 u92 u93 u94 u95 u96 u97 u98 u99 u100 u101 u102 u103 u104 u105 u106 u107 u108 u109 u110 u111 u112 u113 u114 u115 u116 u117 u118 u119 u120 u121 u122 u123 u124 u125 u126 u127 u128 u129 u130 u131 u132 u133 u134 u135 u136 u137 u138 u139 u140 u141 u142 u143 u144 u145 u146 u147 u148 u149 u150 u151 u152 u153 u154 u155 u156 u157 u158 u159 u160 u161 u162 u163 u164 u165 u166 u167 u168 u169 u170 u171 u172 u173 u174 u175 u176 u177 u178 u179 u180 u181 u182 u183 u184 u185 u186 u187 u188 u189 u190 u191 u192 u193 u194 u195 u196 u197 u198 u199 u200 u201 u202 u203 u204 u205 u206 u207 u208 u209 u210 u211 u212 u213 u214 u215 u216 u217 u218 u219 u220 u221 u222 u223 u224 u225 u226 u227 u228 u229 u230 u231 u232 u233 u234 u235 u236 u237 u238 u239 u240 u241 u242 u243 u244 u245 u246 u247 u248 u249 u250 u251 u252 : Value)
    (hpost : post (.returned (RF.val ⟨st.m, 0, neg, st.tr, p, false⟩)) w) :
    Code.wp Tryz.prog rfTail (bodyPost Tryz.prog Tryz.f52 post) ⟨#[.string S, u1, .int .u64 (st.m : Int), .int .i64 0, .bool neg, .bool st.tr, .bool false, .int .i64 (p : Int), .bool false, .bool false, .int .u64 10, .int .i64 19, .int .u8 101, .bool st.dot, .bool st.dig, .int .i64 (st.nd : Int), .int .i64 (st.nm : Int), .int .i64 st.dp, u18, u19, u20, u21, u22, u23, u24, u25, u26, u27, u28, u29, u30, u31, u32, u33, u34, u35, u36, u37, u38, u39, u40, u41, u42, u43, u44, u45, u46, u47, u48, u49, u50, u51, u52, u53, u54, u55, u56, u57, u58, u59, u60, u61, u62, u63, u64, u65, u66, u67, u68, u69, u70, u71, u72, u73, u74, u75, u76, u77, u78, u79, u80, u81, u82, u83, u84, u85, u86, u87, u88, u89, u90, u91, u92, u93, u94, u95, u96, u97, u98, u99, u100, u101, u102, u103, u104, u105, u106, u107, u108, u109, u110, u111, u112, u113, u114, u115, u116, u117, u118, u119, u120, u121, u122, u123, u124, u125, u126, u127, u128, u129, u130, u131, u132, u133, u134, u135, u136, u137, u138, u139, u140, u141, u142, u143, u144, u145, u146, u147, u148, u149, u150, u151, u152, u153, u154, u155, u156, u157, u158, u159, u160, u161, u162, u163, u164, u165, u166, u167, u168, u169, u170, u171, u172, u173, u174, u175, u176, u177, u178, u179, u180, u181, u182, u183, u184, u185, u186, u187, u188, u189, u190, u191, u192, u193, u194, u195, u196, u197, u198, u199, u200, u201, u202, u203, u204, u205, u206, u207, u208, u209, u210, u211, u212, u213, u214, u215, u216, u217, u218, u219, u220, u221, u222, u223, u224, u225, u226, u227, u228, u229, u230, u231, u232, u233, u234, u235, u236, u237, u238, u239, u240, u241, u242, u243, u244, u245, u246, u247, u248, u249, u250, u251, u252], []⟩ w := by
  have HNUM := Lib.hid hS
  have HPOST := Lib.hid hpost
  have hsz := hS.1
  clear hS hpost
  have hm20 := hs.m20
  have hnd := hs.nd
  have hnm := hs.nm
  have hd0 := hs.d0
  have hd1 := hs.d1
  clear hs
  obtain ⟨dot, dig, tr, nd, nm, dp, m⟩ := st
  simp only at hm20 hnd hnm hd0 hd1 ⊢
  simp only at hd
  subst hd
  conv => arg 2; whnf
  go_wp2_with fail
  (try simp only [Exit.inBlock, Exit.then])
  refine bodyPost_ret (results_tmp7 rfl _ _ _) rfl ?_
  exact HPOST.out

set_option maxRecDepth 100000 in
set_option maxHeartbeats 4000000 in
theorem rf_plain (S : ByteArray) (hS : Numeric S) (neg : Bool) (st : RS) (p j : Nat) (hp : p ≤ S.size) (hs : ROk st j) (hj : j ≤ 2000) (d E : Int) (hd : st.dig = true) (hpt : st.point = d) (hE : st.expo d = E) (hy : p = S.size ∨ ¬ isE (ch S p))
    (w : World) (post : Ending → World → Prop) (u1 u18 u19 u20 u21 u22 u23 u24 u25 u26 u27 u28 u29 u30 u31 u32 u33 u34 u35 u36 u37 u38 u39 u40 u41 u42 u43 u44 u45 u46 u47 u48 u49 u50 u51 u52 u53 u54 u55 u56 u57 u58 u59 u60 u61 u62 u63 u64 u65 u66 u67 u68 u69 u70 u71 u72 u73 u74 u75 u76 u77 u78 u79 u80 u81 u82 u83 u84 u85 u86 u87 u88 u89 u90 u91 u92 u93 u94 u95 u96 u97 u98 u99 u100 u101 u102 u103 u104 u105 u106 u107 u108 u109 u110 u111 u112 u113 u114 u115 u116 u117 u118 u119 u120 u121 u122 u123 u124 u125 u126 u127 u128 u129 u130 u131 u132 u133 u134 u135 u136 u137 u138 u139 u140 u141 u142 u143 u144 u145 u146 u147 u148 u149 u150 u151 u152 u153 u154 u155 u156 u157 u158 u159 u160 u161 u162 u163 u164 u165 u166 u167 u168 u169 u170 u171 u172 u173 u174 u175 u176 u177 u178 u179 u180 u181 u182 u183 u184 u185 u186 u187 u188 u189 u190 u191 u192 u193 u194 u195 u196 u197 u198 u199 u200 u201 u202 u203 u204 u205 u206 u207 u208 u209 u210 u211 u212 u213 u214 u215 u216 u217 u218 u219 u220 u221 u222 u223 u224 u225 u226 u227 u228 u229 u230 u231 u232 u233 u234 u235 u236 u237 u238 u239 u240 u241 u242 u243 u244 u245 u246 u247 u248 u249 u250 u251 u252 : Value)
    (hpost : post (.returned (RF.val ⟨st.m, E, neg, st.tr, p, true⟩)) w) :
    Code.wp Tryz.prog rfTail (bodyPost Tryz.prog Tryz.f52 post) ⟨#[.string S, u1, .int .u64 (st.m : Int), .int .i64 0, .bool neg, .bool st.tr, .bool false, .int .i64 (p : Int), .bool false, .bool false, .int .u64 10, .int .i64 19, .int .u8 101, .bool st.dot, .bool st.dig, .int .i64 (st.nd : Int), .int .i64 (st.nm : Int), .int .i64 st.dp, u18, u19, u20, u21, u22, u23, u24, u25, u26, u27, u28, u29, u30, u31, u32, u33, u34, u35, u36, u37, u38, u39, u40, u41, u42, u43, u44, u45, u46, u47, u48, u49, u50, u51, u52, u53, u54, u55, u56, u57, u58, u59, u60, u61, u62, u63, u64, u65, u66, u67, u68, u69, u70, u71, u72, u73, u74, u75, u76, u77, u78, u79, u80, u81, u82, u83, u84, u85, u86, u87, u88, u89, u90, u91, u92, u93, u94, u95, u96, u97, u98, u99, u100, u101, u102, u103, u104, u105, u106, u107, u108, u109, u110, u111, u112, u113, u114, u115, u116, u117, u118, u119, u120, u121, u122, u123, u124, u125, u126, u127, u128, u129, u130, u131, u132, u133, u134, u135, u136, u137, u138, u139, u140, u141, u142, u143, u144, u145, u146, u147, u148, u149, u150, u151, u152, u153, u154, u155, u156, u157, u158, u159, u160, u161, u162, u163, u164, u165, u166, u167, u168, u169, u170, u171, u172, u173, u174, u175, u176, u177, u178, u179, u180, u181, u182, u183, u184, u185, u186, u187, u188, u189, u190, u191, u192, u193, u194, u195, u196, u197, u198, u199, u200, u201, u202, u203, u204, u205, u206, u207, u208, u209, u210, u211, u212, u213, u214, u215, u216, u217, u218, u219, u220, u221, u222, u223, u224, u225, u226, u227, u228, u229, u230, u231, u232, u233, u234, u235, u236, u237, u238, u239, u240, u241, u242, u243, u244, u245, u246, u247, u248, u249, u250, u251, u252], []⟩ w := by
  have HNUM := Lib.hid hS
  have HPOST := Lib.hid hpost
  have hsz := hS.1
  clear hS hpost
  have hm20 := hs.m20
  have hnd := hs.nd
  have hnm := hs.nm
  have hd0 := hs.d0
  have hd1 := hs.d1
  clear hs
  obtain ⟨dot, dig, tr, nd, nm, dp, m⟩ := st
  simp only at hm20 hnd hnm hd0 hd1 ⊢
  simp only at hd
  subst hd
  obtain ⟨hE1, hE2⟩ := expo_facts _ _ _ hE
  simp only at hE1 hE2
  clear hE
  have hm : ((m : Int) != 0) = false ∧ E = 0 ∨ ((m : Int) != 0) = true ∧ E = d - nm := by
    rcases Nat.eq_zero_or_pos m with h | h
    · subst h
      exact Or.inl ⟨rfl, hE1 rfl⟩
    · refine Or.inr ⟨?_, hE2 (by omega)⟩
      rw [bne_iff_ne]
      omega
  have hdot : (dot = false ∧ d = nd) ∨ (dot = true ∧ d = dp) := by
    unfold RS.point at hpt
    cases dot
    · exact Or.inl ⟨rfl, by simpa using hpt.symm⟩
    · exact Or.inr ⟨rfl, by simpa using hpt.symm⟩
  clear hE1 hE2 hpt
  rcases Nat.lt_or_ge p S.size with hlt | hge
  · obtain ⟨y, l, _, hyi, hlow, hle, hln⟩ := lower_at S HNUM.out p hlt
    have hl := hln (by rcases hy with h | h; omega; exact h)
    have hlt' : (p : Int) < (S.size : Int) := by omega
    have hlw := hlow w
    clear hle hln hlow hy
    rcases hdot with ⟨rfl, rfl⟩ | ⟨rfl, rfl⟩
    all_goals (
      rcases hm with ⟨hm, rfl⟩ | ⟨hm, rfl⟩
      all_goals (
        conv => arg 2; whnf
        go_wp2_with fail
        refine hlw.mono ?_
        rintro e w' ⟨rfl, rfl⟩
        go_wp2_with fail
        (try simp only [Exit.inBlock, Exit.then])
        refine bodyPost_ret (results_tmp7 rfl _ _ _) rfl ?_
        exact HPOST.out))
  · have hlt' : ¬ (p : Int) < (S.size : Int) := by omega
    clear hy
    rcases hdot with ⟨rfl, rfl⟩ | ⟨rfl, rfl⟩
    all_goals (
      rcases hm with ⟨hm, rfl⟩ | ⟨hm, rfl⟩
      all_goals (
        conv => arg 2; whnf
        go_wp2_with fail
        (try simp only [Exit.inBlock, Exit.then])
        refine bodyPost_ret (results_tmp7 rfl _ _ _) rfl ?_
        exact HPOST.out))

set_option maxRecDepth 100000 in
set_option maxHeartbeats 4000000 in
theorem rf_short (S : ByteArray) (hS : Numeric S) (neg : Bool) (st : RS) (p j : Nat) (_ : p ≤ S.size) (hs : ROk st j) (_ : j ≤ 2000) (hd : st.dig = true) (hy : p + 1 = S.size) (he : isE (ch S p))
    (w : World) (post : Ending → World → Prop) (u1 u18 u19 u20 u21 u22 u23 u24 u25 u26 u27 u28 u29 u30 u31 u32 u33 u34 u35 u36 u37 u38 u39 u40 u41 u42 u43 u44 u45 u46 u47 u48 u49 u50 u51 u52 u53 u54 u55 u56 u57 u58 u59 u60 u61 u62 u63 u64 u65 u66 u67 u68 u69 u70 u71 u72 u73 u74 u75 u76 u77 u78 u79 u80 u81 u82 u83 u84 u85 u86 u87 u88 u89 u90 u91 u92 u93 u94 u95 u96 u97 u98 u99 u100 u101 u102 u103 u104 u105 u106 u107 u108 u109 u110 u111 u112 u113 u114 u115 u116 u117 u118 u119 u120 u121 u122 u123 u124 u125 u126 u127 u128 u129 u130 u131 u132 u133 u134 u135 u136 u137 u138 u139 u140 u141 u142 u143 u144 u145 u146 u147 u148 u149 u150 u151 u152 u153 u154 u155 u156 u157 u158 u159 u160 u161 u162 u163 u164 u165 u166 u167 u168 u169 u170 u171 u172 u173 u174 u175 u176 u177 u178 u179 u180 u181 u182 u183 u184 u185 u186 u187 u188 u189 u190 u191 u192 u193 u194 u195 u196 u197 u198 u199 u200 u201 u202 u203 u204 u205 u206 u207 u208 u209 u210 u211 u212 u213 u214 u215 u216 u217 u218 u219 u220 u221 u222 u223 u224 u225 u226 u227 u228 u229 u230 u231 u232 u233 u234 u235 u236 u237 u238 u239 u240 u241 u242 u243 u244 u245 u246 u247 u248 u249 u250 u251 u252 : Value)
    (hpost : post (.returned (RF.val ⟨st.m, 0, neg, st.tr, p + 1, false⟩)) w) :
    Code.wp Tryz.prog rfTail (bodyPost Tryz.prog Tryz.f52 post) ⟨#[.string S, u1, .int .u64 (st.m : Int), .int .i64 0, .bool neg, .bool st.tr, .bool false, .int .i64 (p : Int), .bool false, .bool false, .int .u64 10, .int .i64 19, .int .u8 101, .bool st.dot, .bool st.dig, .int .i64 (st.nd : Int), .int .i64 (st.nm : Int), .int .i64 st.dp, u18, u19, u20, u21, u22, u23, u24, u25, u26, u27, u28, u29, u30, u31, u32, u33, u34, u35, u36, u37, u38, u39, u40, u41, u42, u43, u44, u45, u46, u47, u48, u49, u50, u51, u52, u53, u54, u55, u56, u57, u58, u59, u60, u61, u62, u63, u64, u65, u66, u67, u68, u69, u70, u71, u72, u73, u74, u75, u76, u77, u78, u79, u80, u81, u82, u83, u84, u85, u86, u87, u88, u89, u90, u91, u92, u93, u94, u95, u96, u97, u98, u99, u100, u101, u102, u103, u104, u105, u106, u107, u108, u109, u110, u111, u112, u113, u114, u115, u116, u117, u118, u119, u120, u121, u122, u123, u124, u125, u126, u127, u128, u129, u130, u131, u132, u133, u134, u135, u136, u137, u138, u139, u140, u141, u142, u143, u144, u145, u146, u147, u148, u149, u150, u151, u152, u153, u154, u155, u156, u157, u158, u159, u160, u161, u162, u163, u164, u165, u166, u167, u168, u169, u170, u171, u172, u173, u174, u175, u176, u177, u178, u179, u180, u181, u182, u183, u184, u185, u186, u187, u188, u189, u190, u191, u192, u193, u194, u195, u196, u197, u198, u199, u200, u201, u202, u203, u204, u205, u206, u207, u208, u209, u210, u211, u212, u213, u214, u215, u216, u217, u218, u219, u220, u221, u222, u223, u224, u225, u226, u227, u228, u229, u230, u231, u232, u233, u234, u235, u236, u237, u238, u239, u240, u241, u242, u243, u244, u245, u246, u247, u248, u249, u250, u251, u252], []⟩ w := by
  have HNUM := Lib.hid hS
  have HPOST := Lib.hid hpost
  have hsz := hS.1
  clear hS hpost
  have hm20 := hs.m20
  have hnd := hs.nd
  have hnm := hs.nm
  have hd0 := hs.d0
  have hd1 := hs.d1
  clear hs
  obtain ⟨dot, dig, tr, nd, nm, dp, m⟩ := st
  simp only at hm20 hnd hnm hd0 hd1 ⊢
  simp only at hd
  subst hd
  have hlt : p < S.size := by omega
  obtain ⟨y, l, _, hyi, hlow, hle, hln⟩ := lower_at S HNUM.out p hlt
  have hl := hle he
  subst hl
  have hlt' : (p : Int) < (S.size : Int) := by omega
  have hge' : ¬ (p : Int) + 1 < (S.size : Int) := by omega
  have hlw := hlow w
  clear hle hln hlow hy he
  cases dot
  all_goals (
    conv => arg 2; whnf
    go_wp2_with fail
    refine hlw.mono ?_
    rintro e w' ⟨rfl, rfl⟩
    go_wp2_with fail
    (try simp only [Exit.inBlock, Exit.then])
    refine bodyPost_ret (results_tmp7 rfl _ _ _) rfl ?_
    exact HPOST.out)

/-- The byte behind e, and where the digits begin. -/
theorem sign_at (S : ByteArray) (a : Nat) (ha : a < S.size) :
    ∃ c : Nat, ((S[a]'ha).toNat : Int) = c ∧ ((c = 43 ∧ sgnI (ch S a) a = a + 1 ∧ sgnB (ch S a) = false) ∨ (c = 45 ∧ sgnI (ch S a) a = a + 1 ∧ sgnB (ch S a) = true) ∨
      (((c : Int) == 43) = false ∧ ((c : Int) == 45) = false ∧ sgnI (ch S a) a = a ∧ sgnB (ch S a) = false)) := by
  have h := ch_eq S a ha
  refine ⟨ch S a, by omega, ?_⟩
  unfold sgnI sgnB
  by_cases h1 : ch S a = 43
  · rw [h1]; exact Or.inl ⟨rfl, rfl, rfl⟩
  · by_cases h2 : ch S a = 45
    · rw [h2]; exact Or.inr (Or.inl ⟨rfl, rfl, rfl⟩)
    · refine Or.inr (Or.inr ⟨?_, ?_, by rw [if_neg (by omega)], decide_eq_false h2⟩)
      · rw [beq_eq_false_iff_ne]; omega
      · rw [beq_eq_false_iff_ne]; omega
theorem nodig_at (S : ByteArray) (q : Nat) (hq : q < S.size) (h : ¬ digN (ch S q)) : ∃ z : Nat, ((S[q]'hq).toNat : Int) = z ∧ ((z : Int) < 48 ∨ 48 ≤ (z : Int) ∧ 57 < (z : Int)) := by
  have e := ch_eq S q hq
  refine ⟨ch S q, by omega, ?_⟩
  unfold digN at h
  omega
theorem dig_at (S : ByteArray) (q : Nat) (hq : q < S.size) (h : digN (ch S q)) : ∃ z : Nat, ch S q = z ∧ ((S[q]'hq).toNat : Int) = z ∧ (48 : Int) ≤ (z : Int) ∧ (z : Int) ≤ 57 := by
  have e := ch_eq S q hq
  refine ⟨ch S q, rfl, by omega, ?_⟩
  unfold digN at h
  omega

set_option maxRecDepth 100000 in
set_option maxHeartbeats 4000000 in
theorem rf_bad (S : ByteArray) (hS : Numeric S) (neg : Bool) (st : RS) (p j : Nat) (_ : p ≤ S.size) (hs : ROk st j) (_ : j ≤ 2000) (q : Nat) (hd : st.dig = true) (hy : p + 1 < S.size) (he : isE (ch S p)) (hq : sgnI (ch S (p + 1)) (p + 1) = q) (hb : q = S.size ∨ ¬ digN (ch S q))
    (w : World) (post : Ending → World → Prop) (u1 u18 u19 u20 u21 u22 u23 u24 u25 u26 u27 u28 u29 u30 u31 u32 u33 u34 u35 u36 u37 u38 u39 u40 u41 u42 u43 u44 u45 u46 u47 u48 u49 u50 u51 u52 u53 u54 u55 u56 u57 u58 u59 u60 u61 u62 u63 u64 u65 u66 u67 u68 u69 u70 u71 u72 u73 u74 u75 u76 u77 u78 u79 u80 u81 u82 u83 u84 u85 u86 u87 u88 u89 u90 u91 u92 u93 u94 u95 u96 u97 u98 u99 u100 u101 u102 u103 u104 u105 u106 u107 u108 u109 u110 u111 u112 u113 u114 u115 u116 u117 u118 u119 u120 u121 u122 u123 u124 u125 u126 u127 u128 u129 u130 u131 u132 u133 u134 u135 u136 u137 u138 u139 u140 u141 u142 u143 u144 u145 u146 u147 u148 u149 u150 u151 u152 u153 u154 u155 u156 u157 u158 u159 u160 u161 u162 u163 u164 u165 u166 u167 u168 u169 u170 u171 u172 u173 u174 u175 u176 u177 u178 u179 u180 u181 u182 u183 u184 u185 u186 u187 u188 u189 u190 u191 u192 u193 u194 u195 u196 u197 u198 u199 u200 u201 u202 u203 u204 u205 u206 u207 u208 u209 u210 u211 u212 u213 u214 u215 u216 u217 u218 u219 u220 u221 u222 u223 u224 u225 u226 u227 u228 u229 u230 u231 u232 u233 u234 u235 u236 u237 u238 u239 u240 u241 u242 u243 u244 u245 u246 u247 u248 u249 u250 u251 u252 : Value)
    (hpost : post (.returned (RF.val ⟨st.m, 0, neg, st.tr, q, false⟩)) w) :
    Code.wp Tryz.prog rfTail (bodyPost Tryz.prog Tryz.f52 post) ⟨#[.string S, u1, .int .u64 (st.m : Int), .int .i64 0, .bool neg, .bool st.tr, .bool false, .int .i64 (p : Int), .bool false, .bool false, .int .u64 10, .int .i64 19, .int .u8 101, .bool st.dot, .bool st.dig, .int .i64 (st.nd : Int), .int .i64 (st.nm : Int), .int .i64 st.dp, u18, u19, u20, u21, u22, u23, u24, u25, u26, u27, u28, u29, u30, u31, u32, u33, u34, u35, u36, u37, u38, u39, u40, u41, u42, u43, u44, u45, u46, u47, u48, u49, u50, u51, u52, u53, u54, u55, u56, u57, u58, u59, u60, u61, u62, u63, u64, u65, u66, u67, u68, u69, u70, u71, u72, u73, u74, u75, u76, u77, u78, u79, u80, u81, u82, u83, u84, u85, u86, u87, u88, u89, u90, u91, u92, u93, u94, u95, u96, u97, u98, u99, u100, u101, u102, u103, u104, u105, u106, u107, u108, u109, u110, u111, u112, u113, u114, u115, u116, u117, u118, u119, u120, u121, u122, u123, u124, u125, u126, u127, u128, u129, u130, u131, u132, u133, u134, u135, u136, u137, u138, u139, u140, u141, u142, u143, u144, u145, u146, u147, u148, u149, u150, u151, u152, u153, u154, u155, u156, u157, u158, u159, u160, u161, u162, u163, u164, u165, u166, u167, u168, u169, u170, u171, u172, u173, u174, u175, u176, u177, u178, u179, u180, u181, u182, u183, u184, u185, u186, u187, u188, u189, u190, u191, u192, u193, u194, u195, u196, u197, u198, u199, u200, u201, u202, u203, u204, u205, u206, u207, u208, u209, u210, u211, u212, u213, u214, u215, u216, u217, u218, u219, u220, u221, u222, u223, u224, u225, u226, u227, u228, u229, u230, u231, u232, u233, u234, u235, u236, u237, u238, u239, u240, u241, u242, u243, u244, u245, u246, u247, u248, u249, u250, u251, u252], []⟩ w := by
  have HNUM := Lib.hid hS
  have HPOST := Lib.hid hpost
  have hsz := hS.1
  clear hS hpost
  have hm20 := hs.m20
  have hnd := hs.nd
  have hnm := hs.nm
  have hd0 := hs.d0
  have hd1 := hs.d1
  clear hs
  obtain ⟨dot, dig, tr, nd, nm, dp, m⟩ := st
  simp only at hm20 hnd hnm hd0 hd1 ⊢
  simp only at hd
  subst hd
  have hlt : p < S.size := by omega
  obtain ⟨y, l, _, hyi, hlow, hle, hln⟩ := lower_at S HNUM.out p hlt
  have hl := hle he
  subst hl
  have hlt' : (p : Int) < (S.size : Int) := by omega
  have hlt2 : (p : Int) + 1 < (S.size : Int) := by omega
  have hlw := hlow w
  obtain ⟨c, hci, hc⟩ := sign_at S (p + 1) hy
  rw [hq] at hc
  clear hle hln hlow he hq
  have hb' : (q : Int) = (S.size : Int) ∨ ∃ hqs : q < S.size, ∃ z : Nat, ((S[q]'hqs).toNat : Int) = z ∧ ((z : Int) < 48 ∨ 48 ≤ (z : Int) ∧ 57 < (z : Int)) := by
    rcases hb with h | h
    · exact Or.inl (by omega)
    · rcases Nat.lt_or_ge q S.size with h1 | h1
      · exact Or.inr ⟨h1, nodig_at S q h1 h⟩
      · left
        rcases hc with ⟨_, h2, _⟩ | ⟨_, h2, _⟩ | ⟨_, _, h2, _⟩ <;> omega
  clear hb
  rcases hc with ⟨rfl, rfl, -⟩ | ⟨rfl, rfl, -⟩ | ⟨hc1, hc2, rfl, -⟩
  all_goals (
    rcases hb' with hb | ⟨hqs, z, hz, hz1 | ⟨hz1, hz2⟩⟩
    all_goals (
      cases dot
      all_goals (
        conv => arg 2; whnf
        go_wp2_with fail
        refine hlw.mono ?_
        rintro e w' ⟨rfl, rfl⟩
        go_wp2_with fail
        all_goals (
          (try simp only [Exit.inBlock, Exit.then])
          refine bodyPost_ret (results_tmp7 rfl _ _ _) rfl ?_
          exact HPOST.out))))
end Go.Proofs.YtodihpaabkplhaaGreatDoor
