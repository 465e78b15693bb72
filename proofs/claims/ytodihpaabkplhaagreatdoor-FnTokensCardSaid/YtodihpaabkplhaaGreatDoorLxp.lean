/- spec.Words: the number. spec.Words: the letters. -/
import Derived.Test.YtodihpaabkplhaaGreatDoorLxm
import Derived.Test.YtodihpaabkplhaaGreatDoorCod
import Derived.Deep.QuietTactic
import Derived.BigQuiet

namespace Go.Proofs.YtodihpaabkplhaaGreatDoor
open Go.RowKit

theorem info_word5 : (Tryz.prog.info? 32).map (fun i => (i.zero, i.size, i.bytes)) = some (some (.agg (wordC ⟨0, 0, 0, false, 0⟩)), 5, 40) := by kernel_rfl
def wordsL (l : List Wd) : List Value := l.flatMap fun d => (wordC d).toList
theorem wordsL_app (l : List Wd) (d : Wd) : wordsL (l ++ [d]) = wordsL l ++ (wordC d).toList := by simp [wordsL]

noncomputable def wdNum : Code := (Tryz.f5.body.bind (seqAt 30)).getD .skip

set_option maxRecDepth 100000 in
set_option maxHeartbeats 4000000 in
theorem w_num (S : ByteArray) (g j e : Nat) (ov : Value) (l : List Wd) (sp : Spots) (W : World) (K : Act → World → Prop) (Q0 : Exit → Act → World → Prop) (post : Ending → World → Prop) (u1 u7 u199 : Value) (u3 u5 u6 u8 u9 u10 u11 u12 u13 u14 u15 u16 u17 u18 u19 u20 u21 u22 u23 u24 u25 u26 u27 u28 u29 u30 u31 u32 u33 u34 u35 u36 u37 u38 u39 u40 u41 u42 u43 u44 u45 u46 u47 u48 u49 u50 u51 u52 u53 u54 u55 u56 u57 u58 u59 u60 u61 u62 u63 u64 u65 u66 u67 u68 u69 u70 u71 u72 u73 u74 u75 u76 u77 u78 u79 u80 u81 u82 u83 u84 u85 u86 u87 u88 u89 u90 u91 u92 u93 u94 u95 u96 u97 u98 u99 u100 u101 u102 u103 u104 u105 u106 u107 u108 u109 u110 u111 u112 u113 u114 u115 u116 u117 u118 u119 u120 u121 u122 u123 u124 u125 u126 u127 u128 u129 u130 u131 u132 u133 u134 u135 u136 u137 u138 u139 u140 u141 u142 u143 u144 u145 u146 u147 u148 u149 u150 u151 u152 u153 u154 u155 u156 u157 u158 u159 u160 u161 u162 u163 u164 u165 u166 u167 u168 u169 u170 u171 u172 u173 u174 u175 u176 u177 u178 u179 u180 u181 u182 u183 u184 u185 u186 u187 u188 u189 u190 u191 u192 u193 u194 u195 u196 u197 u198 : Value)
    (hS : Asc S) (he : Span numN S j e) (hje : j < e) (hT : Tab2 sp W) (hrow : W.ownsRow g 32 5 ov l.length (wordsL l)) (hg : g ≤ W.heap.size) (hll : l.length ≤ 100000)
    (hret : ∀ a w, bodyPost Tryz.prog Tryz.f5 post .ret a w → Q0 .ret a w)
    (hpost : pfF (S.extract j e) = none → ∀ w', Below g W w' → post (.returned (.tuple #[.slice none 0 0, .bool false])) w')
    (hK : ∀ x, pfF (S.extract j e) = some x → ∀ (ov2 : Value) (w' : World) (v3 v5 v6 v8 v9 v10 v11 v12 v13 v14 v15 v16 v17 v18 v19 v20 v21 v22 v23 v24 v25 v26 v27 v28 v29 v30 v31 v32 v33 v34 v35 v36 v37 v38 v39 v40 v41 v42 v43 v44 v45 v46 v47 v48 v49 v50 v51 v52 v53 v54 v55 v56 v57 v58 v59 v60 v61 v62 v63 v64 v65 v66 v67 v68 v69 v70 v71 v72 v73 v74 v75 v76 v77 v78 v79 v80 v81 v82 v83 v84 v85 v86 v87 v88 v89 v90 v91 v92 v93 v94 v95 v96 v97 v98 v99 v100 v101 v102 v103 v104 v105 v106 v107 v108 v109 v110 v111 v112 v113 v114 v115 v116 v117 v118 v119 v120 v121 v122 v123 v124 v125 v126 v127 v128 v129 v130 v131 v132 v133 v134 v135 v136 v137 v138 v139 v140 v141 v142 v143 v144 v145 v146 v147 v148 v149 v150 v151 v152 v153 v154 v155 v156 v157 v158 v159 v160 v161 v162 v163 v164 v165 v166 v167 v168 v169 v170 v171 v172 v173 v174 v175 v176 v177 v178 v179 v180 v181 v182 v183 v184 v185 v186 v187 v188 v189 v190 v191 v192 v193 v194 v195 v196 v197 v198 : Value), w'.ownsRow g 32 5 ov2 (l.length + 1) (wordsL (l ++ [⟨35, 0, 0, false, x⟩])) → Below g W w' → K ⟨#[.string S, u1, ov2, v3, .int .i64 (e : Int), v5, v6, u7, v8, v9, v10, v11, v12, v13, v14, v15, v16, v17, v18, v19, v20, v21, v22, v23, v24, v25, v26, v27, v28, v29, v30, v31, v32, v33, v34, v35, v36, v37, v38, v39, v40, v41, v42, v43, v44, v45, v46, v47, v48, v49, v50, v51, v52, v53, v54, v55, v56, v57, v58, v59, v60, v61, v62, v63, v64, v65, v66, v67, v68, v69, v70, v71, v72, v73, v74, v75, v76, v77, v78, v79, v80, v81, v82, v83, v84, v85, v86, v87, v88, v89, v90, v91, v92, v93, v94, v95, v96, v97, v98, v99, v100, v101, v102, v103, v104, v105, v106, v107, v108, v109, v110, v111, v112, v113, v114, v115, v116, v117, v118, v119, v120, v121, v122, v123, v124, v125, v126, v127, v128, v129, v130, v131, v132, v133, v134, v135, v136, v137, v138, v139, v140, v141, v142, v143, v144, v145, v146, v147, v148, v149, v150, v151, v152, v153, v154, v155, v156, v157, v158, v159, v160, v161, v162, v163, v164, v165, v166, v167, v168, v169, v170, v171, v172, v173, v174, v175, v176, v177, v178, v179, v180, v181, v182, v183, v184, v185, v186, v187, v188, v189, v190, v191, v192, v193, v194, v195, v196, v197, v198, u199], []⟩ w') :
    Code.wp Tryz.prog wdNum (Exit.then K Q0) ⟨#[.string S, u1, ov, u3, .int .i64 (j : Int), u5, u6, u7, u8, u9, u10, u11, u12, u13, u14, u15, u16, u17, u18, u19, u20, u21, u22, u23, u24, u25, u26, u27, u28, u29, u30, u31, u32, u33, u34, u35, u36, u37, u38, u39, u40, u41, u42, u43, u44, u45, u46, u47, u48, u49, u50, u51, u52, u53, u54, u55, u56, u57, u58, u59, u60, u61, u62, u63, u64, u65, u66, u67, u68, u69, u70, u71, u72, u73, u74, u75, u76, u77, u78, u79, u80, u81, u82, u83, u84, u85, u86, u87, u88, u89, u90, u91, u92, u93, u94, u95, u96, u97, u98, u99, u100, u101, u102, u103, u104, u105, u106, u107, u108, u109, u110, u111, u112, u113, u114, u115, u116, u117, u118, u119, u120, u121, u122, u123, u124, u125, u126, u127, u128, u129, u130, u131, u132, u133, u134, u135, u136, u137, u138, u139, u140, u141, u142, u143, u144, u145, u146, u147, u148, u149, u150, u151, u152, u153, u154, u155, u156, u157, u158, u159, u160, u161, u162, u163, u164, u165, u166, u167, u168, u169, u170, u171, u172, u173, u174, u175, u176, u177, u178, u179, u180, u181, u182, u183, u184, u185, u186, u187, u188, u189, u190, u191, u192, u193, u194, u195, u196, u197, u198, u199], []⟩ W := by
  have hee := he.end_le
  have hsz := hS.1
  have hext : (S.extract j e).size = e - j := by rw [ByteArray.size_extract]; omega
  have hnum : Numeric (S.extract j e) := ⟨by omega, fun i hi => by
    rw [hext] at hi
    rw [ch_extract S j e i hee hi]
    exact he.all _ (by omega) (by omega)⟩
  have HPF := Lib.hid (pfF_parses _ hnum (by omega))
  have HS := Lib.hid hS
  have HSP := Lib.hid he
  have HT := Lib.hid hT
  have HRW := Lib.hid hrow
  have HRET := Lib.hid hret
  have HPOST := Lib.hid hpost
  have HK := Lib.hid hK
  clear hext hnum hS he hT hrow hret hpost hK
  conv => arg 2; whnf
  conv => arg 4; dsimp only
  go_wp2_with fail
  go_loopg [11] (e - (j + 1)) (fun q nv wx => ∃ n : Nat, j + 1 ≤ n ∧ q + n = e ∧ nv = .int .i64 n ∧ wx = W)
  case atStart => exact ⟨j + 1, by omega, by omega, by go_num, rfl⟩
  case round =>
    obtain ⟨n, hn1, hqn, rfl, rfl⟩ := hrel
    rcases Nat.lt_or_ge n S.size with hns | hns
    rotate_left
    · have hlt : ¬ (n : Int) < (S.size : Int) := by omega
      go_wp2_with fail
      have hnE : n = e := by omega
      subst hnE
      cases hpf : pfF (S.extract j n) with
      | some x =>
        have hps := HPF.out.1
        rw [hpf] at hps
        have HPS := Lib.hid (hps sp wr HT.out)
        have hx := HPF.out.2 x hpf
        have HX := Lib.hid hx
        have HKX := Lib.hid (HK.out x hpf)
        clear hps hpf hx HPF HPOST HK
        go_wp2_with fail
        refine HPS.out.mono ?_
        rintro en w3 ⟨rfl, ho3⟩
        have hg3 : g ≤ w3.heap.size := by have := ho3.size; omega
        have hrow3 : w3.ownsRow g 32 5 ov l.length (wordsL l) := own_heap HRW.out (fun k hk => ho3.block k (HRW.out.lt k hk).2)
        have HB3 := Lib.hid (ho3.mono hg)
        have HR3 := Lib.hid hrow3
        clear ho3 hrow3
        go_wp2_with (at_builtin; refine push_one _ _ rfl 32 23 5 40 _ rfl info_word5 Tryz.underlying23 rfl (by decide) (by decide) g ov l.length (wordsL l) _ _ rfl (by intro u hu; simp at hu; rcases hu with rfl | rfl | rfl | rfl | rfl <;> rfl) (by rfl) (by rfl) HR3.out hll hg3 ?_)
        intro ov4 w4 ho4 hg4
        have hb4 : Below g wr w4 := HB3.out.trans hg4.below
        have hr4 : w4.ownsRow g 32 5 ov4 (l.length + 1) (wordsL (l ++ [⟨35, 0, 0, false, x⟩])) := by rw [wordsL_app]; exact ho4
        have HF := Lib.hid (And.intro hr4 hb4)
        clear ho4 hg4 hb4 hr4
        go_wp2_with fail
        exact HKX.out ov4 w4 _ _ _ _ _ _ _ _ _ _ _ _ _ _ _ _ _ _ _ _ _ _ _ _ _ _ _ _ _ _ _ _ _ _ _ _ _ _ _ _ _ _ _ _ _ _ _ _ _ _ _ _ _ _ _ _ _ _ _ _ _ _ _ _ _ _ _ _ _ _ _ _ _ _ _ _ _ _ _ _ _ _ _ _ _ _ _ _ _ _ _ _ _ _ _ _ _ _ _ _ _ _ _ _ _ _ _ _ _ _ _ _ _ _ _ _ _ _ _ _ _ _ _ _ _ _ _ _ _ _ _ _ _ _ _ _ _ _ _ _ _ _ _ _ _ _ _ _ _ _ _ _ _ _ _ _ _ _ _ _ _ _ _ _ _ _ _ _ _ _ _ _ _ _ _ _ _ _ _ _ _ _ _ _ _ _ _ _ _ _ _ _ _ _  HF.out.1 HF.out.2
      | none =>
        have hps := HPF.out.1
        rw [hpf] at hps
        obtain ⟨x, t, hps⟩ := hps
        have HPS := Lib.hid (hps sp wr HT.out)
        have HPN := Lib.hid (HPOST.out hpf)
        clear hps hpf HPF HPOST HK
        go_wp2_with fail
        refine HPS.out.mono ?_
        rintro en w3 ⟨pt, rfl, ho3⟩
        have HB3 := Lib.hid (ho3.mono hg)
        clear ho3
        go_wp2_with fail
        refine HRET.out _ _ ?_
        go_ret2
        exact HPN.out _ HB3.out
    have hlt : (n : Int) < (S.size : Int) := by omega
    have hcn := ch_eq S n hns
    have hall : n < e → numN (ch S n) := fun h => HSP.out.all n (by omega) h
    have hstop : n = e → ¬ numN (ch S n) := fun h => by
      rcases HSP.out.stop with h1 | h1
      · omega
      · rw [h]; exact h1
    obtain ⟨d, hd⟩ : ∃ d, ch S n = d := ⟨_, rfl⟩
    rw [hd] at hcn hall hstop
    have hyi : ((S[n]'hns).toNat : Int) = d := by omega
    clear hd hcn
    cases gk with
    | zero =>
      have hno := hstop (by omega)
      have h43 : ((d : Int) == 43) = false := by rw [beq_eq_false_iff_ne]; unfold numN at hno; omega
      have h45 : ((d : Int) == 45) = false := by rw [beq_eq_false_iff_ne]; unfold numN at hno; omega
      have h46 : ((d : Int) == 46) = false := by rw [beq_eq_false_iff_ne]; unfold numN at hno; omega
      have h69 : ((d : Int) == 69) = false := by rw [beq_eq_false_iff_ne]; unfold numN at hno; omega
      have h101 : ((d : Int) == 101) = false := by rw [beq_eq_false_iff_ne]; unfold numN at hno; omega
      have hway : ¬ (48 : Int) ≤ d ∨ ((48 : Int) ≤ d ∧ ¬ (d : Int) ≤ 57) := by unfold numN digN at hno; omega
      clear hno hall hstop
      rcases hway with h48 | ⟨h48, h57⟩
      all_goals (
        go_wp2_with fail
        have hnE : n = e := by omega
        subst hnE
        cases hpf : pfF (S.extract j n) with
        | some x =>
          have hps := HPF.out.1
          rw [hpf] at hps
          have HPS := Lib.hid (hps sp wr HT.out)
          have hx := HPF.out.2 x hpf
          have HX := Lib.hid hx
          have HKX := Lib.hid (HK.out x hpf)
          clear hps hpf hx HPF HPOST HK
          go_wp2_with fail
          refine HPS.out.mono ?_
          rintro en w3 ⟨rfl, ho3⟩
          have hg3 : g ≤ w3.heap.size := by have := ho3.size; omega
          have hrow3 : w3.ownsRow g 32 5 ov l.length (wordsL l) := own_heap HRW.out (fun k hk => ho3.block k (HRW.out.lt k hk).2)
          have HB3 := Lib.hid (ho3.mono hg)
          have HR3 := Lib.hid hrow3
          clear ho3 hrow3
          go_wp2_with (at_builtin; refine push_one _ _ rfl 32 23 5 40 _ rfl info_word5 Tryz.underlying23 rfl (by decide) (by decide) g ov l.length (wordsL l) _ _ rfl (by intro u hu; simp at hu; rcases hu with rfl | rfl | rfl | rfl | rfl <;> rfl) (by rfl) (by rfl) HR3.out hll hg3 ?_)
          intro ov4 w4 ho4 hg4
          have hb4 : Below g wr w4 := HB3.out.trans hg4.below
          have hr4 : w4.ownsRow g 32 5 ov4 (l.length + 1) (wordsL (l ++ [⟨35, 0, 0, false, x⟩])) := by rw [wordsL_app]; exact ho4
          have HF := Lib.hid (And.intro hr4 hb4)
          clear ho4 hg4 hb4 hr4
          go_wp2_with fail
          exact HKX.out ov4 w4 _ _ _ _ _ _ _ _ _ _ _ _ _ _ _ _ _ _ _ _ _ _ _ _ _ _ _ _ _ _ _ _ _ _ _ _ _ _ _ _ _ _ _ _ _ _ _ _ _ _ _ _ _ _ _ _ _ _ _ _ _ _ _ _ _ _ _ _ _ _ _ _ _ _ _ _ _ _ _ _ _ _ _ _ _ _ _ _ _ _ _ _ _ _ _ _ _ _ _ _ _ _ _ _ _ _ _ _ _ _ _ _ _ _ _ _ _ _ _ _ _ _ _ _ _ _ _ _ _ _ _ _ _ _ _ _ _ _ _ _ _ _ _ _ _ _ _ _ _ _ _ _ _ _ _ _ _ _ _ _ _ _ _ _ _ _ _ _ _ _ _ _ _ _ _ _ _ _ _ _ _ _ _ _ _ _ _ _ _ _ _ _ _ _  HF.out.1 HF.out.2
        | none =>
          have hps := HPF.out.1
          rw [hpf] at hps
          obtain ⟨x, t, hps⟩ := hps
          have HPS := Lib.hid (hps sp wr HT.out)
          have HPN := Lib.hid (HPOST.out hpf)
          clear hps hpf HPF HPOST HK
          go_wp2_with fail
          refine HPS.out.mono ?_
          rintro en w3 ⟨pt, rfl, ho3⟩
          have HB3 := Lib.hid (ho3.mono hg)
          clear ho3
          go_wp2_with fail
          refine HRET.out _ _ ?_
          go_ret2
          exact HPN.out _ HB3.out)
    | succ q =>
      have hyes := hall (by omega)
      have hway : ((48 : Int) ≤ d ∧ (d : Int) ≤ 57) ∨ d = 45 ∨ d = 46 ∨ d = 101 ∨ d = 69 ∨ d = 43 := by unfold numN digN at hyes; omega
      clear hyes hall hstop HK HPOST HPF
      rcases hway with ⟨h48, h57⟩ | rfl | rfl | rfl | rfl | rfl
      all_goals (
        go_wp2_with fail
        go_roundg q
        case measure => omega
        case rel => exact ⟨n + 1, by omega, by omega, by go_num, rfl⟩)
end Go.Proofs.YtodihpaabkplhaaGreatDoor

namespace Go.Proofs.YtodihpaabkplhaaGreatDoor
open Go.RowKit

noncomputable def wdLet : Code := (Tryz.f5.body.bind (seqAt 11)).getD .skip

def plM (S : ByteArray) (k : Nat) : Nat → Nat
  | 0 => k
  | 1 => zEnd S k
  | _ => mEnd S k
def nmM (S : ByteArray) (k : Nat) (L : List UInt8) : Nat → List UInt8
  | 0 => L
  | 1 => zName S k L
  | _ => mName S k L
theorem nmM_len (S : ByteArray) (k : Nat) (L : List UInt8) (m : Nat) : (nmM S k L m).length ≤ L.length + 2 := by
  unfold nmM
  split
  · omega
  · unfold zName; split <;> simp
  · exact mName_len S k L
theorem plM_le (S : ByteArray) (k m : Nat) (h : k ≤ S.size) : plM S k m ≤ S.size := by
  unfold plM
  split
  · exact h
  · exact zEnd_le S k h
  · exact mEnd_le S k h
theorem step_yes (S : ByteArray) (k : Nat) (L : List UInt8) (m t : Nat) (hm : m = 0 ∧ t = 90 ∨ m = 1 ∧ t = 77) (h : greatN (ch S (plM S k m)) = t) :
    plM S k (m + 1) = plM S k m + 1 ∧ (⟨(nmM S k L m).toArray⟩ : ByteArray) ++ ⟨#[UInt8.ofNat t]⟩ = ⟨(nmM S k L (m + 1)).toArray⟩ := by
  rcases hm with ⟨rfl, rfl⟩ | ⟨rfl, rfl⟩
  · simp only [plM] at h
    simp only [plM, nmM, zEnd, zName, if_pos h]
    refine ⟨trivial, ?_⟩
    apply ByteArray.ext
    rw [ByteArray.data_append]
    simp
  · simp only [plM] at h
    simp only [plM, nmM, mEnd, mName, if_pos h]
    refine ⟨trivial, ?_⟩
    apply ByteArray.ext
    rw [ByteArray.data_append]
    simp
theorem step_no (S : ByteArray) (k : Nat) (L : List UInt8) (m t : Nat) (hm : m = 0 ∧ t = 90 ∨ m = 1 ∧ t = 77) (h : greatN (ch S (plM S k m)) ≠ t) :
    plM S k (m + 1) = plM S k m ∧ nmM S k L (m + 1) = nmM S k L m := by
  rcases hm with ⟨rfl, rfl⟩ | ⟨rfl, rfl⟩
  · simp only [plM] at h
    simp only [plM, nmM, zEnd, zName, if_neg h]
    trivial
  · simp only [plM] at h
    simp only [plM, nmM, mEnd, mName, if_neg h]
    trivial

/-- What the letters from j on become: a token and the place behind it, or none. -/
def LetTo (S : ByteArray) (j : Nat) (r : Option (Wd × Nat)) : Prop :=
  ∃ e, Span letN S j e ∧ ((capsF S j e = emptyN ∧ r = some (⟨0, 0, 0, true, 0⟩, e)) ∨ (capsF S j e ≠ emptyN ∧ ∃ k, Span blankN S e k ∧ r = (named (mName S k (capsF S j e))).map fun d => (d, mEnd S k)))

theorem conv_one (wx : World) (c : Nat) (hc : c < 256) : (convert 37 9 (.slice (some ⟨wx.heap.size, 0, none⟩) 1 1)).run Tryz.prog (wx.alloc (.cells #[.int .u8 (c : Int)] 5)) = .ok (.string ⟨#[UInt8.ofNat c]⟩) (wx.alloc (.cells #[.int .u8 (c : Int)] 5)) := by
  have := run_convert_bytes_back (P := Tryz.prog) (wx.alloc (.cells #[.int .u8 (c : Int)] 5)) 37 9 5 ⟨wx.heap.size, 0, none⟩ 1 [UInt8.ofNat c] Tryz.underlying37 Tryz.underlying5 Tryz.underlying9 (fun j hj => by
    have hj0 : j = 0 := by simp at hj; omega
    subst hj0
    rw [plain_add, Lib.cell_of_heap (heap_new wx _)]
    simp
    omega)
  simpa using this

set_option maxRecDepth 100000 in
set_option maxHeartbeats 4000000 in
theorem w_let (S : ByteArray) (g j : Nat) (rr : Option (Wd × Nat)) (ov : Value) (l : List Wd) (W : World) (K : Act → World → Prop) (Q0 : Exit → Act → World → Prop) (post : Ending → World → Prop) (u1 u7 u199 : Value) (u3 u5 u6 u8 u9 u10 u11 u12 u13 u14 u15 u16 u17 u18 u19 u20 u21 u22 u23 u24 u25 u26 u27 u28 u29 u30 u31 u32 u33 u34 u35 u36 u37 u38 u39 u40 u41 u42 u43 u44 u45 u46 u47 u48 u49 u50 u51 u52 u53 u54 u55 u56 u57 u58 u59 u60 u61 u62 u63 u64 u65 u66 u67 u68 u69 u70 u71 u72 u73 u74 u75 u76 u77 u78 u79 u80 u81 u82 u83 u84 u85 u86 u87 u88 u89 u90 u91 u92 u93 u94 u95 u96 u97 u98 u99 u100 u101 u102 u103 u104 u105 u106 u107 u108 u109 u110 u111 u112 u113 u114 u115 u116 u117 u118 u119 u120 u121 u122 u123 u124 u125 u126 u127 u128 u129 u130 u131 u132 u133 u134 u135 u136 u137 u138 u139 u140 u141 u142 u143 u144 u145 u146 u147 u148 u149 u150 u151 u152 u153 u154 u155 u156 u157 u158 u159 u160 u161 u162 u163 u164 u165 u166 u167 u168 u169 u170 u171 u172 u173 u174 u175 u176 u177 u178 u179 u180 u181 u182 u183 u184 u185 u186 u187 u188 u189 u190 u191 u192 u193 u194 u195 u196 u197 u198 : Value)
    (hS : Asc S) (hj : j < S.size) (hr : LetTo S j rr) (hrow : W.ownsRow g 32 5 ov l.length (wordsL l)) (hg : g ≤ W.heap.size) (hll : l.length ≤ 100000)
    (hret : ∀ a w, bodyPost Tryz.prog Tryz.f5 post .ret a w → Q0 .ret a w)
    (hpost : rr = none → ∀ w', Below g W w' → post (.returned (.tuple #[.slice none 0 0, .bool false])) w')
    (hK : ∀ d p, rr = some (d, p) → ∀ (ov2 : Value) (w' : World) (v3 v5 v6 v8 v9 v10 v11 v12 v13 v14 v15 v16 v17 v18 v19 v20 v21 v22 v23 v24 v25 v26 v27 v28 v29 v30 v31 v32 v33 v34 v35 v36 v37 v38 v39 v40 v41 v42 v43 v44 v45 v46 v47 v48 v49 v50 v51 v52 v53 v54 v55 v56 v57 v58 v59 v60 v61 v62 v63 v64 v65 v66 v67 v68 v69 v70 v71 v72 v73 v74 v75 v76 v77 v78 v79 v80 v81 v82 v83 v84 v85 v86 v87 v88 v89 v90 v91 v92 v93 v94 v95 v96 v97 v98 v99 v100 v101 v102 v103 v104 v105 v106 v107 v108 v109 v110 v111 v112 v113 v114 v115 v116 v117 v118 v119 v120 v121 v122 v123 v124 v125 v126 v127 v128 v129 v130 v131 v132 v133 v134 v135 v136 v137 v138 v139 v140 v141 v142 v143 v144 v145 v146 v147 v148 v149 v150 v151 v152 v153 v154 v155 v156 v157 v158 v159 v160 v161 v162 v163 v164 v165 v166 v167 v168 v169 v170 v171 v172 v173 v174 v175 v176 v177 v178 v179 v180 v181 v182 v183 v184 v185 v186 v187 v188 v189 v190 v191 v192 v193 v194 v195 v196 v197 v198 : Value), w'.ownsRow g 32 5 ov2 (l.length + 1) (wordsL (l ++ [d])) → Below g W w' → K ⟨#[.string S, u1, ov2, v3, .int .i64 (p : Int), v5, v6, u7, v8, v9, v10, v11, v12, v13, v14, v15, v16, v17, v18, v19, v20, v21, v22, v23, v24, v25, v26, v27, v28, v29, v30, v31, v32, v33, v34, v35, v36, v37, v38, v39, v40, v41, v42, v43, v44, v45, v46, v47, v48, v49, v50, v51, v52, v53, v54, v55, v56, v57, v58, v59, v60, v61, v62, v63, v64, v65, v66, v67, v68, v69, v70, v71, v72, v73, v74, v75, v76, v77, v78, v79, v80, v81, v82, v83, v84, v85, v86, v87, v88, v89, v90, v91, v92, v93, v94, v95, v96, v97, v98, v99, v100, v101, v102, v103, v104, v105, v106, v107, v108, v109, v110, v111, v112, v113, v114, v115, v116, v117, v118, v119, v120, v121, v122, v123, v124, v125, v126, v127, v128, v129, v130, v131, v132, v133, v134, v135, v136, v137, v138, v139, v140, v141, v142, v143, v144, v145, v146, v147, v148, v149, v150, v151, v152, v153, v154, v155, v156, v157, v158, v159, v160, v161, v162, v163, v164, v165, v166, v167, v168, v169, v170, v171, v172, v173, v174, v175, v176, v177, v178, v179, v180, v181, v182, v183, v184, v185, v186, v187, v188, v189, v190, v191, v192, v193, v194, v195, v196, v197, v198, u199], []⟩ w') :
    Code.wp Tryz.prog wdLet (Exit.then K Q0) ⟨#[.string S, u1, ov, u3, .int .i64 (j : Int), u5, u6, u7, u8, u9, u10, u11, u12, u13, u14, u15, u16, u17, u18, u19, u20, u21, u22, u23, u24, u25, u26, u27, u28, u29, u30, u31, u32, u33, u34, u35, u36, u37, u38, u39, u40, u41, u42, u43, u44, u45, u46, u47, u48, u49, u50, u51, u52, u53, u54, u55, u56, u57, u58, u59, u60, u61, u62, u63, u64, u65, u66, u67, u68, u69, u70, u71, u72, u73, u74, u75, u76, u77, u78, u79, u80, u81, u82, u83, u84, u85, u86, u87, u88, u89, u90, u91, u92, u93, u94, u95, u96, u97, u98, u99, u100, u101, u102, u103, u104, u105, u106, u107, u108, u109, u110, u111, u112, u113, u114, u115, u116, u117, u118, u119, u120, u121, u122, u123, u124, u125, u126, u127, u128, u129, u130, u131, u132, u133, u134, u135, u136, u137, u138, u139, u140, u141, u142, u143, u144, u145, u146, u147, u148, u149, u150, u151, u152, u153, u154, u155, u156, u157, u158, u159, u160, u161, u162, u163, u164, u165, u166, u167, u168, u169, u170, u171, u172, u173, u174, u175, u176, u177, u178, u179, u180, u181, u182, u183, u184, u185, u186, u187, u188, u189, u190, u191, u192, u193, u194, u195, u196, u197, u198, u199], []⟩ W := by
  obtain ⟨e, he, hrr⟩ := hr
  have hje := he.le
  have hee := he.end_le
  have hsz := hS.1
  have HS := Lib.hid hS
  have HSP := Lib.hid he
  have HRR := Lib.hid hrr
  have HRW := Lib.hid hrow
  have HRET := Lib.hid hret
  have HPOST := Lib.hid hpost
  have HK := Lib.hid hK
  clear hS he hrr hrow hret hpost hK
  conv => arg 2; whnf
  conv => arg 4; dsimp only
  go_wp2_with fail
  go_loopg [4, 6] (e - j) (fun q iv sv wx => ∃ n : Nat, j ≤ n ∧ q + n = e ∧ iv = .int .i64 n ∧ sv = .string ⟨(capsF S j n).toArray⟩ ∧ Below W.heap.size W wx)
  case atStart => exact ⟨j, by omega, by omega, by go_num, by rw [capsF_nil], Below.refl _ _⟩
  case round =>
    obtain ⟨n, hn1, hqn, rfl, rfl, hbw⟩ := hrel
    have HB := Lib.hid hbw
    clear hbw
    cases gk with
    | succ q =>
      have hns : n < S.size := by omega
      have hlt : (n : Int) < (S.size : Int) := by omega
      have hcn := ch_eq S n hns
      have hl1 := HSP.out.all n hn1 (by omega)
      have h128 := HS.out.lt n
      have hcap := capsF_succ S j n hn1
      have hlen : (⟨(capsF S j n).toArray⟩ : ByteArray).size ≤ 2000 := by rw [size_list, capsF_length]; omega
      have hsl := fun wx => sLetter_any (ch S n) wx h128
      have hsg := fun wx => sGreat_any (ch S n) wx h128
      have hcv := fun wx => conv_one wx (greatN (ch S n)) (by have := greatN_lt _ h128; omega)
      have hcat : (⟨(capsF S j n).toArray⟩ : ByteArray) ++ ⟨#[UInt8.ofNat (greatN (ch S n))]⟩ = ⟨(capsF S j (n + 1)).toArray⟩ := by
        rw [hcap]
        apply ByteArray.ext
        rw [ByteArray.data_append]
        simp [greatB]
      obtain ⟨d, hd⟩ : ∃ d, ch S n = d := ⟨_, rfl⟩
      rw [hd] at hcn hl1 hsl hsg hcat hcv
      have hyi : ((S[n]'hns).toNat : Int) = d := by omega
      have hdl : decide (letN d) = true := decide_eq_true hl1
      obtain ⟨s0, hs0⟩ : ∃ s0 : ByteArray, (⟨(capsF S j n).toArray⟩ : ByteArray) = s0 := ⟨_, rfl⟩
      rw [hs0] at hcat hlen ⊢
      have HSL := Lib.hid hsl
      have HSG := Lib.hid hsg
      have HDL := Lib.hid hdl
      have HCAT := Lib.hid hcat
      clear hcap hd hcn hl1 hsl hsg hdl hcat hs0
      go_wp2_with fail
      refine (HSL.out _).mono ?_
      rintro en w2 ⟨rfl, rfl⟩
      rw [HDL.out]
      go_wp2_with fail
      refine (HSG.out _).mono ?_
      rintro en w2 ⟨rfl, rfl⟩
      go_wp2_with fail
      have hb3 : Below W.heap.size W (w2.alloc (.cells #[.int .u8 (greatN d : Int)] 5)) := HB.out.alloc HB.out.size _
      rw [HCAT.out]
      go_roundg q
      case measure => omega
      case rel => exact ⟨n + 1, by omega, by omega, by go_num, rfl, hb3⟩
    | zero =>
      have hne : n = e := by omega
      subst hne
      have hend : n = S.size ∨ ¬ letN (ch S n) := HSP.out.stop
      have hlenL : (capsF S j n).length ≤ 2000 := by rw [capsF_length]; omega
      have hlen : (⟨(capsF S j n).toArray⟩ : ByteArray).size ≤ 2000 := by rw [size_list]; exact hlenL
      have hsl := fun wx => sLetter_any (ch S n) wx (HS.out.lt n)
      have hway : (¬ (n : Int) < (S.size : Int)) ∨ ((n : Int) < (S.size : Int) ∧ ∃ h : n < S.size, ((S[n]'h).toNat : Int) = ch S n ∧ decide (letN (ch S n)) = false) := by
        rcases Nat.lt_or_ge n S.size with h1 | h1
        · refine Or.inr ⟨by omega, h1, by rw [← ch_eq S n h1], ?_⟩
          rcases hend with h2 | h2
          · omega
          · exact decide_eq_false h2
        · exact Or.inl (by omega)
      have HSL := Lib.hid hsl
      clear hsl hend
      by_cases hE : capsF S j n = emptyN
      · have hEb : (!capsF S j n == [69, 77, 80, 84, 89]) = false := by rw [hE]; rfl
        have hrn : rr = (named (capsF S j n)).map fun d => (d, n) := by
          rcases HRR.out with ⟨_, h⟩ | ⟨h, _⟩
          · rw [h, hE, named_empty]; rfl
          · exact absurd hE h
        have HRN := Lib.hid hrn
        have HLEN := Lib.hid (Nat.le_trans hlenL (by decide : 2000 ≤ 3000))
        have HBN := HB
        clear hrn hE hlen hlenL HB HRR
        rcases hway with h1 | ⟨h1, h2, h3, h4⟩
        · go_wp2_with fail
          have hnm := fun wx => named_any (capsF S j n) wx HLEN.out
          have HNM := Lib.hid hnm
          clear hnm
          go_wp2_with fail
          refine (HNM.out _).mono ?_
          rintro en w5 ⟨hsome, hnone, ho5⟩
          have hb5 := HBN.out.trans (ho5.mono HBN.out.size)
          cases hnd : named (capsF S j n) with
          | none =>
            have hen := hnone hnd
            subst hen
            have HB5 := Lib.hid hb5
            have hpn := HPOST.out (by rw [HRN.out, hnd]; rfl)
            have HPN := Lib.hid hpn
            clear hsome hnone ho5 hb5 hnd hpn HPOST HK HRN HNM
            unfold wordC
            go_wp2_with fail
            refine HRET.out _ _ ?_
            go_ret2
            exact HPN.out _ ((HB5.out.alloc HB5.out.size _).mono hg)
          | some d =>
            have hen := hsome d hnd
            subst hen
            have hrn : rr = some (d, n) := by rw [HRN.out, hnd]; rfl
            have HKX := Lib.hid (HK.out d _ hrn)
            have HB5 := Lib.hid hb5
            clear hsome hnone ho5 hb5 hnd hrn HPOST HK HRN HNM
            have hg5 : g ≤ w5.heap.size := Nat.le_trans hg HB5.out.size
            have hrow5 : w5.ownsRow g 32 5 ov l.length (wordsL l) := own_heap HRW.out (fun k hk => HB5.out.block k (HRW.out.lt k hk).2)
            have HR5 := Lib.hid (hrow5.alloc (.cells (wordC d) 32))
            have HG5 := Lib.hid (show g ≤ (w5.alloc (.cells (wordC d) 32)).heap.size from Nat.le_trans hg5 ((Below.refl w5.heap.size w5).alloc (Nat.le_refl _) (.cells (wordC d) 32)).size)
            have HSZ5 := Lib.hid (show (w5.alloc (.cells (wordC d) 32)).heap.size = w5.heap.size + 1 by show (w5.heap.push _).size = _; simp)
            clear hrow5 hg5
            unfold wordC
            go_wp2_with (at_builtin; go_loud (refine push_one _ _ rfl 32 23 5 40 _ rfl info_word5 Tryz.underlying23 rfl (by decide) (by decide) g ov l.length (wordsL l) (w5.alloc (.cells (wordC d) 32)) (wordC d) rfl (by intro u hu; simp [wordC] at hu; rcases hu with rfl | rfl | rfl | rfl | rfl <;> rfl) (by rfl) (by rw [HSZ5.out]; rfl) HR5.out hll HG5.out ?_))
            intro ov4 w4 ho4 hg4
            have hb4 : Below g W w4 := ((HB5.out.alloc HB5.out.size _).mono hg).trans hg4.below
            have HF := Lib.hid (And.intro (show w4.ownsRow g 32 5 ov4 (l.length + 1) (wordsL (l ++ [d])) by rw [wordsL_app]; exact ho4) hb4)
            clear ho4 hg4 hb4
            go_wp2_with fail
            exact HKX.out ov4 w4 _ _ _ _ _ _ _ _ _ _ _ _ _ _ _ _ _ _ _ _ _ _ _ _ _ _ _ _ _ _ _ _ _ _ _ _ _ _ _ _ _ _ _ _ _ _ _ _ _ _ _ _ _ _ _ _ _ _ _ _ _ _ _ _ _ _ _ _ _ _ _ _ _ _ _ _ _ _ _ _ _ _ _ _ _ _ _ _ _ _ _ _ _ _ _ _ _ _ _ _ _ _ _ _ _ _ _ _ _ _ _ _ _ _ _ _ _ _ _ _ _ _ _ _ _ _ _ _ _ _ _ _ _ _ _ _ _ _ _ _ _ _ _ _ _ _ _ _ _ _ _ _ _ _ _ _ _ _ _ _ _ _ _ _ _ _ _ _ _ _ _ _ _ _ _ _ _ _ _ _ _ _ _ _ _ _ _ _ _ _ _ _ _ _  HF.out.1 HF.out.2
        · go_wp2_with fail
          refine (HSL.out _).mono ?_
          rintro en w9 ⟨rfl, rfl⟩
          rw [h4]
          go_wp2_with fail
          have hnm := fun wx => named_any (capsF S j n) wx HLEN.out
          have HNM := Lib.hid hnm
          clear hnm
          go_wp2_with fail
          refine (HNM.out _).mono ?_
          rintro en w5 ⟨hsome, hnone, ho5⟩
          have hb5 := HBN.out.trans (ho5.mono HBN.out.size)
          cases hnd : named (capsF S j n) with
          | none =>
            have hen := hnone hnd
            subst hen
            have HB5 := Lib.hid hb5
            have hpn := HPOST.out (by rw [HRN.out, hnd]; rfl)
            have HPN := Lib.hid hpn
            clear hsome hnone ho5 hb5 hnd hpn HPOST HK HRN HNM
            unfold wordC
            go_wp2_with fail
            refine HRET.out _ _ ?_
            go_ret2
            exact HPN.out _ ((HB5.out.alloc HB5.out.size _).mono hg)
          | some d =>
            have hen := hsome d hnd
            subst hen
            have hrn : rr = some (d, n) := by rw [HRN.out, hnd]; rfl
            have HKX := Lib.hid (HK.out d _ hrn)
            have HB5 := Lib.hid hb5
            clear hsome hnone ho5 hb5 hnd hrn HPOST HK HRN HNM
            have hg5 : g ≤ w5.heap.size := Nat.le_trans hg HB5.out.size
            have hrow5 : w5.ownsRow g 32 5 ov l.length (wordsL l) := own_heap HRW.out (fun k hk => HB5.out.block k (HRW.out.lt k hk).2)
            have HR5 := Lib.hid (hrow5.alloc (.cells (wordC d) 32))
            have HG5 := Lib.hid (show g ≤ (w5.alloc (.cells (wordC d) 32)).heap.size from Nat.le_trans hg5 ((Below.refl w5.heap.size w5).alloc (Nat.le_refl _) (.cells (wordC d) 32)).size)
            have HSZ5 := Lib.hid (show (w5.alloc (.cells (wordC d) 32)).heap.size = w5.heap.size + 1 by show (w5.heap.push _).size = _; simp)
            clear hrow5 hg5
            unfold wordC
            go_wp2_with (at_builtin; go_loud (refine push_one _ _ rfl 32 23 5 40 _ rfl info_word5 Tryz.underlying23 rfl (by decide) (by decide) g ov l.length (wordsL l) (w5.alloc (.cells (wordC d) 32)) (wordC d) rfl (by intro u hu; simp [wordC] at hu; rcases hu with rfl | rfl | rfl | rfl | rfl <;> rfl) (by rfl) (by rw [HSZ5.out]; rfl) HR5.out hll HG5.out ?_))
            intro ov4 w4 ho4 hg4
            have hb4 : Below g W w4 := ((HB5.out.alloc HB5.out.size _).mono hg).trans hg4.below
            have HF := Lib.hid (And.intro (show w4.ownsRow g 32 5 ov4 (l.length + 1) (wordsL (l ++ [d])) by rw [wordsL_app]; exact ho4) hb4)
            clear ho4 hg4 hb4
            go_wp2_with fail
            exact HKX.out ov4 w4 _ _ _ _ _ _ _ _ _ _ _ _ _ _ _ _ _ _ _ _ _ _ _ _ _ _ _ _ _ _ _ _ _ _ _ _ _ _ _ _ _ _ _ _ _ _ _ _ _ _ _ _ _ _ _ _ _ _ _ _ _ _ _ _ _ _ _ _ _ _ _ _ _ _ _ _ _ _ _ _ _ _ _ _ _ _ _ _ _ _ _ _ _ _ _ _ _ _ _ _ _ _ _ _ _ _ _ _ _ _ _ _ _ _ _ _ _ _ _ _ _ _ _ _ _ _ _ _ _ _ _ _ _ _ _ _ _ _ _ _ _ _ _ _ _ _ _ _ _ _ _ _ _ _ _ _ _ _ _ _ _ _ _ _ _ _ _ _ _ _ _ _ _ _ _ _ _ _ _ _ _ _ _ _ _ _ _ _ _ _ _ _ _ _  HF.out.1 HF.out.2
      · have hEb : (!capsF S j n == [69, 77, 80, 84, 89]) = true := by
          rw [Bool.not_eq_true', beq_eq_false_iff_ne]
          exact hE
        obtain ⟨k, hk, hrn⟩ : ∃ k, Span blankN S n k ∧ rr = (named (mName S k (capsF S j n))).map fun d => (d, mEnd S k) := by
          rcases HRR.out with ⟨h, _⟩ | ⟨_, h⟩
          · exact absurd h hE
          · exact h
        have hnk := hk.le
        have hks := hk.end_le
        have HRN := Lib.hid hrn
        have HBL := Lib.hid hk
        obtain ⟨L, hL⟩ : ∃ L, capsF S j n = L := ⟨_, rfl⟩
        rw [hL] at HRN hEb hlen hlenL ⊢
        clear hrn hk hE hL HRR
        rcases hway with h1 | ⟨h1, h2, h3, h4⟩
        · have hdn : decide ((n : Int) < (S.size : Int)) = false := decide_eq_false h1
          go_wp2_with fail
          go_loopg [4] (k - n) (fun q iv wx => ∃ m : Nat, n ≤ m ∧ q + m = k ∧ iv = .int .i64 m ∧ Below W.heap.size W wx)
          case atStart => exact ⟨n, by omega, by omega, by go_num, HB.out⟩
          case round =>
            clear HB
            obtain ⟨m, hnm, hqm, rfl, hbm⟩ := hrel
            have HBM := Lib.hid hbm
            clear hbm
            have hsb := fun wx => sBlank_any (ch S m) wx (HS.out.lt m)
            have HSB := Lib.hid hsb
            clear hsb
            cases gk with
            | succ q =>
              have hms : m < S.size := by omega
              have hlt : (m : Int) < (S.size : Int) := by omega
              have hyi : ((S[m]'hms).toNat : Int) = ch S m := by rw [← ch_eq S m hms]
              have hdb : decide (blankN (ch S m)) = true := decide_eq_true (HBL.out.all m hnm (by omega))
              obtain ⟨d, hd⟩ : ∃ d, ch S m = d := ⟨_, rfl⟩
              rw [hd] at hyi HSB hdb
              have HDB := Lib.hid hdb
              clear hdb hd
              go_wp2_with fail
              refine (HSB.out _).mono ?_
              rintro en w7 ⟨rfl, rfl⟩
              rw [HDB.out]
              go_wp2_with fail
              go_roundg q
              case measure => omega
              case rel => exact ⟨m + 1, by omega, by omega, by go_num, HBM.out⟩
            | zero =>
              have hmk : m = k := by omega
              subst hmk
              have hway2 : (¬ (m : Int) < (S.size : Int)) ∨ ((m : Int) < (S.size : Int) ∧ ∃ h : m < S.size, ((S[m]'h).toNat : Int) = ch S m ∧ decide (blankN (ch S m)) = false) := by
                rcases Nat.lt_or_ge m S.size with h1 | h1
                · refine Or.inr ⟨by omega, h1, by rw [← ch_eq S m h1], ?_⟩
                  rcases HBL.out.stop with h2 | h2
                  · omega
                  · exact decide_eq_false h2
                · exact Or.inl (by omega)
              rcases hway2 with h5 | ⟨h5, h6, h7, h8⟩
              · have hdd : decide ((m : Int) < (S.size : Int)) = false := decide_eq_false h5
                go_wp2_with fail
                have hh0 : (wr.alloc (.cells #[.int .u8 90, .int .u8 77] 5)).heap[wr.heap.size]? = some (.cells #[.int .u8 90, .int .u8 77] 5 (0, 0)) := heap_new wr _
                have hb0 : Below W.heap.size W (wr.alloc (.cells #[.int .u8 90, .int .u8 77] 5)) := HBM.out.alloc HBM.out.size _
                obtain ⟨hq, hhq⟩ : ∃ hq, wr.heap.size = hq := ⟨_, rfl⟩
                rw [hhq] at hh0
                have HH0 := Lib.hid (And.intro hh0 hb0)
                clear hh0 hb0 HBM
                go_wp2_with fail
                rw [hhq]
                go_loopg [4, 6, 83] 2 (fun q iv sv tv wx => ∃ z : Nat, q + z = 2 ∧ iv = .int .i64 (plM S m z : Nat) ∧ sv = .string ⟨(nmM S m L z).toArray⟩ ∧ tv = .int .i64 z ∧ wx.heap[hq]? = some (.cells #[.int .u8 90, .int .u8 77] 5 (0, 0)) ∧ Below W.heap.size W wx)
                case atStart => exact ⟨0, by omega, rfl, rfl, rfl, HH0.out⟩
                case round =>
                  clear HH0
                  obtain ⟨z, hqz, rfl, rfl, rfl, hhh, hbb⟩ := hrel
                  have cc0 : wr.cell? ⟨hq, 0, none⟩ = some (.int .u8 90) := by rw [Lib.cell_of_heap hhh]; rfl
                  have cc1 : wr.cell? ⟨hq, 1, none⟩ = some (.int .u8 77) := by rw [Lib.cell_of_heap hhh]; rfl
                  have HHH := Lib.hid hhh
                  have HBB := Lib.hid hbb
                  clear hhh hbb
                  rcases (show z = 0 ∨ z = 1 ∨ z = 2 by omega) with rfl | rfl | rfl
                  · obtain rfl : gk = 1 + 1 := by omega
                    have hcv := fun wx => conv_one wx 90 (by decide)
                    change ∀ wx : World, Sem.run _ (convert _ _ _) (wx.alloc (.cells #[.int .u8 90] _)) = .ok _ (wx.alloc (.cells #[.int .u8 90] _)) at hcv
                    have hyes := step_yes S m L 0 90 (by decide)
                    have hno := step_no S m L 0 90 (by decide)
                    have hlenm : (⟨(nmM S m L 0).toArray⟩ : ByteArray).size ≤ 2002 := by rw [size_list]; exact Nat.le_trans (nmM_len S m L 0) (by omega)
                    have hple := plM_le S m 0 hks
                    have hend := ch_end S (plM S m 0)
                    have hsg := fun wx => sGreat_any (ch S (plM S m 0)) wx (HS.out.lt _)
                    have hceq := ch_eq S (plM S m 0)
                    obtain ⟨p, hp⟩ : ∃ p, plM S m 0 = p := ⟨_, rfl⟩
                    rw [hp] at hyes hno hple hend hsg hceq ⊢
                    obtain ⟨s0, hs0⟩ : ∃ s0 : ByteArray, (⟨(nmM S m L 0).toArray⟩ : ByteArray) = s0 := ⟨_, rfl⟩
                    have hnm0 : nmM S m L 1 = nmM S m L 0 → (⟨(nmM S m L 1).toArray⟩ : ByteArray) = s0 := fun h => by rw [h]; exact hs0
                    rw [hs0] at hyes hlenm ⊢
                    have HSG := Lib.hid hsg
                    have HNM0 := Lib.hid hnm0
                    have HNO := Lib.hid hno
                    have HYES := Lib.hid hyes
                    have HEND := Lib.hid hend
                    clear hsg hnm0 hno hyes hend hp hs0
                    rcases Nat.lt_or_ge p S.size with hps | hps
                    rotate_left
                    · have hlt : ¬ (p : Int) < (S.size : Int) := by omega
                      have h0 := HEND.out hps
                      have hn := HNO.out (by rw [h0]; decide)
                      have HN := Lib.hid hn
                      clear h0 hn
                      go_wp2_with fail
                      go_roundg 1
                      case measure => omega
                      case rel => exact ⟨1, by omega, by rw [HN.out.1], by rw [HNM0.out HN.out.2], by first | rfl | go_num, HHH.out, HBB.out⟩
                    have hlt : (p : Int) < (S.size : Int) := by omega
                    have hyi : ((S[p]'hps).toNat : Int) = ch S p := by rw [← hceq hps]
                    obtain ⟨d, hd⟩ : ∃ d, ch S p = d := ⟨_, rfl⟩
                    rw [hd] at hyi HSG HNO HYES
                    clear hd hceq
                    by_cases hz : greatN d = 90
                    · have hzb : ((greatN d : Int) == 90) = true := by rw [beq_iff_eq]; omega
                      have hy := HYES.out hz
                      have HY := Lib.hid hy
                      clear hz hy
                      go_wp2_with fail
                      refine (HSG.out _).mono ?_
                      rintro en w7 ⟨rfl, rfl⟩
                      go_wp2_with fail
                      rw [show (s0 ++ ⟨#[90]⟩ : ByteArray) = _ from HY.out.2]
                      go_roundg 1
                      case measure => omega
                      case rel => exact ⟨1, by omega, by rw [HY.out.1]; go_num, rfl, by first | rfl | go_num, (Below.heap_alloc _ _ _ (heap_lt HHH.out)).trans HHH.out, HBB.out.alloc HBB.out.size _⟩
                    · have hzb : ((greatN d : Int) == 90) = false := by rw [beq_eq_false_iff_ne]; omega
                      have hn := HNO.out hz
                      have HN := Lib.hid hn
                      clear hz hn
                      go_wp2_with fail
                      refine (HSG.out _).mono ?_
                      rintro en w7 ⟨rfl, rfl⟩
                      go_wp2_with fail
                      go_roundg 1
                      case measure => omega
                      case rel => exact ⟨1, by omega, by rw [HN.out.1], by rw [HNM0.out HN.out.2], by first | rfl | go_num, HHH.out, HBB.out⟩

                  · obtain rfl : gk = 0 + 1 := by omega
                    have hcv := fun wx => conv_one wx 77 (by decide)
                    change ∀ wx : World, Sem.run _ (convert _ _ _) (wx.alloc (.cells #[.int .u8 77] _)) = .ok _ (wx.alloc (.cells #[.int .u8 77] _)) at hcv
                    have hyes := step_yes S m L 1 77 (by decide)
                    have hno := step_no S m L 1 77 (by decide)
                    have hlenm : (⟨(nmM S m L 1).toArray⟩ : ByteArray).size ≤ 2002 := by rw [size_list]; exact Nat.le_trans (nmM_len S m L 1) (by omega)
                    have hple := plM_le S m 1 hks
                    have hend := ch_end S (plM S m 1)
                    have hsg := fun wx => sGreat_any (ch S (plM S m 1)) wx (HS.out.lt _)
                    have hceq := ch_eq S (plM S m 1)
                    obtain ⟨p, hp⟩ : ∃ p, plM S m 1 = p := ⟨_, rfl⟩
                    rw [hp] at hyes hno hple hend hsg hceq ⊢
                    obtain ⟨s0, hs0⟩ : ∃ s0 : ByteArray, (⟨(nmM S m L 1).toArray⟩ : ByteArray) = s0 := ⟨_, rfl⟩
                    have hnm0 : nmM S m L 2 = nmM S m L 1 → (⟨(nmM S m L 2).toArray⟩ : ByteArray) = s0 := fun h => by rw [h]; exact hs0
                    rw [hs0] at hyes hlenm ⊢
                    have HSG := Lib.hid hsg
                    have HNM0 := Lib.hid hnm0
                    have HNO := Lib.hid hno
                    have HYES := Lib.hid hyes
                    have HEND := Lib.hid hend
                    clear hsg hnm0 hno hyes hend hp hs0
                    rcases Nat.lt_or_ge p S.size with hps | hps
                    rotate_left
                    · have hlt : ¬ (p : Int) < (S.size : Int) := by omega
                      have h0 := HEND.out hps
                      have hn := HNO.out (by rw [h0]; decide)
                      have HN := Lib.hid hn
                      clear h0 hn
                      go_wp2_with fail
                      go_roundg 0
                      case measure => omega
                      case rel => exact ⟨2, by omega, by rw [HN.out.1], by rw [HNM0.out HN.out.2], by first | rfl | go_num, HHH.out, HBB.out⟩
                    have hlt : (p : Int) < (S.size : Int) := by omega
                    have hyi : ((S[p]'hps).toNat : Int) = ch S p := by rw [← hceq hps]
                    obtain ⟨d, hd⟩ : ∃ d, ch S p = d := ⟨_, rfl⟩
                    rw [hd] at hyi HSG HNO HYES
                    clear hd hceq
                    by_cases hz : greatN d = 77
                    · have hzb : ((greatN d : Int) == 77) = true := by rw [beq_iff_eq]; omega
                      have hy := HYES.out hz
                      have HY := Lib.hid hy
                      clear hz hy
                      go_wp2_with fail
                      refine (HSG.out _).mono ?_
                      rintro en w7 ⟨rfl, rfl⟩
                      go_wp2_with fail
                      rw [show (s0 ++ ⟨#[77]⟩ : ByteArray) = _ from HY.out.2]
                      go_roundg 0
                      case measure => omega
                      case rel => exact ⟨2, by omega, by rw [HY.out.1]; go_num, rfl, by first | rfl | go_num, (Below.heap_alloc _ _ _ (heap_lt HHH.out)).trans HHH.out, HBB.out.alloc HBB.out.size _⟩
                    · have hzb : ((greatN d : Int) == 77) = false := by rw [beq_eq_false_iff_ne]; omega
                      have hn := HNO.out hz
                      have HN := Lib.hid hn
                      clear hz hn
                      go_wp2_with fail
                      refine (HSG.out _).mono ?_
                      rintro en w7 ⟨rfl, rfl⟩
                      go_wp2_with fail
                      go_roundg 0
                      case measure => omega
                      case rel => exact ⟨2, by omega, by rw [HN.out.1], by rw [HNM0.out HN.out.2], by first | rfl | go_num, HHH.out, HBB.out⟩

                  · obtain rfl : gk = 0 := by omega
                    have HLEN := Lib.hid (Nat.le_trans (nmM_len S m L 2) (show L.length + 2 ≤ 3000 by omega))
                    have HBN := HBB
                    change Hid ((mName S m L).length ≤ 3000) at HLEN
                    simp only [plM, nmM]
                    go_wp2_with fail
                    have hnm := fun wx => named_any (mName S m L) wx HLEN.out
                    have HNM := Lib.hid hnm
                    clear hnm
                    go_wp2_with fail
                    refine (HNM.out _).mono ?_
                    rintro en w5 ⟨hsome, hnone, ho5⟩
                    have hb5 := HBN.out.trans (ho5.mono HBN.out.size)
                    cases hnd : named (mName S m L) with
                    | none =>
                      have hen := hnone hnd
                      subst hen
                      have HB5 := Lib.hid hb5
                      have hpn := HPOST.out (by rw [HRN.out, hnd]; rfl)
                      have HPN := Lib.hid hpn
                      clear hsome hnone ho5 hb5 hnd hpn HPOST HK HRN HNM
                      unfold wordC
                      go_wp2_with fail
                      refine HRET.out _ _ ?_
                      go_ret2
                      exact HPN.out _ ((HB5.out.alloc HB5.out.size _).mono hg)
                    | some d =>
                      have hen := hsome d hnd
                      subst hen
                      have hrn : rr = some (d, mEnd S m) := by rw [HRN.out, hnd]; rfl
                      have HKX := Lib.hid (HK.out d _ hrn)
                      have HB5 := Lib.hid hb5
                      clear hsome hnone ho5 hb5 hnd hrn HPOST HK HRN HNM
                      have hg5 : g ≤ w5.heap.size := Nat.le_trans hg HB5.out.size
                      have hrow5 : w5.ownsRow g 32 5 ov l.length (wordsL l) := own_heap HRW.out (fun k hk => HB5.out.block k (HRW.out.lt k hk).2)
                      have HR5 := Lib.hid (hrow5.alloc (.cells (wordC d) 32))
                      have HG5 := Lib.hid (show g ≤ (w5.alloc (.cells (wordC d) 32)).heap.size from Nat.le_trans hg5 ((Below.refl w5.heap.size w5).alloc (Nat.le_refl _) (.cells (wordC d) 32)).size)
                      have HSZ5 := Lib.hid (show (w5.alloc (.cells (wordC d) 32)).heap.size = w5.heap.size + 1 by show (w5.heap.push _).size = _; simp)
                      clear hrow5 hg5
                      unfold wordC
                      go_wp2_with (at_builtin; go_loud (refine push_one _ _ rfl 32 23 5 40 _ rfl info_word5 Tryz.underlying23 rfl (by decide) (by decide) g ov l.length (wordsL l) (w5.alloc (.cells (wordC d) 32)) (wordC d) rfl (by intro u hu; simp [wordC] at hu; rcases hu with rfl | rfl | rfl | rfl | rfl <;> rfl) (by rfl) (by rw [HSZ5.out]; rfl) HR5.out hll HG5.out ?_))
                      intro ov4 w4 ho4 hg4
                      have hb4 : Below g W w4 := ((HB5.out.alloc HB5.out.size _).mono hg).trans hg4.below
                      have HF := Lib.hid (And.intro (show w4.ownsRow g 32 5 ov4 (l.length + 1) (wordsL (l ++ [d])) by rw [wordsL_app]; exact ho4) hb4)
                      clear ho4 hg4 hb4
                      go_wp2_with fail
                      exact HKX.out ov4 w4 _ _ _ _ _ _ _ _ _ _ _ _ _ _ _ _ _ _ _ _ _ _ _ _ _ _ _ _ _ _ _ _ _ _ _ _ _ _ _ _ _ _ _ _ _ _ _ _ _ _ _ _ _ _ _ _ _ _ _ _ _ _ _ _ _ _ _ _ _ _ _ _ _ _ _ _ _ _ _ _ _ _ _ _ _ _ _ _ _ _ _ _ _ _ _ _ _ _ _ _ _ _ _ _ _ _ _ _ _ _ _ _ _ _ _ _ _ _ _ _ _ _ _ _ _ _ _ _ _ _ _ _ _ _ _ _ _ _ _ _ _ _ _ _ _ _ _ _ _ _ _ _ _ _ _ _ _ _ _ _ _ _ _ _ _ _ _ _ _ _ _ _ _ _ _ _ _ _ _ _ _ _ _ _ _ _ _ _ _ _ _ _ _ _  HF.out.1 HF.out.2

              · exfalso; omega
        · have hdn : decide ((n : Int) < (S.size : Int)) = true := decide_eq_true h1
          go_wp2_with fail
          refine (HSL.out _).mono ?_
          rintro en w9 ⟨rfl, rfl⟩
          rw [h4]
          go_wp2_with fail
          go_loopg [4] (k - n) (fun q iv wx => ∃ m : Nat, n ≤ m ∧ q + m = k ∧ iv = .int .i64 m ∧ Below W.heap.size W wx)
          case atStart => exact ⟨n, by omega, by omega, by go_num, HB.out⟩
          case round =>
            clear HB
            obtain ⟨m, hnm, hqm, rfl, hbm⟩ := hrel
            have HBM := Lib.hid hbm
            clear hbm
            have hsb := fun wx => sBlank_any (ch S m) wx (HS.out.lt m)
            have HSB := Lib.hid hsb
            clear hsb
            cases gk with
            | succ q =>
              have hms : m < S.size := by omega
              have hlt : (m : Int) < (S.size : Int) := by omega
              have hyi : ((S[m]'hms).toNat : Int) = ch S m := by rw [← ch_eq S m hms]
              have hdb : decide (blankN (ch S m)) = true := decide_eq_true (HBL.out.all m hnm (by omega))
              obtain ⟨d, hd⟩ : ∃ d, ch S m = d := ⟨_, rfl⟩
              rw [hd] at hyi HSB hdb
              have HDB := Lib.hid hdb
              clear hdb hd
              go_wp2_with fail
              refine (HSB.out _).mono ?_
              rintro en w7 ⟨rfl, rfl⟩
              rw [HDB.out]
              go_wp2_with fail
              go_roundg q
              case measure => omega
              case rel => exact ⟨m + 1, by omega, by omega, by go_num, HBM.out⟩
            | zero =>
              have hmk : m = k := by omega
              subst hmk
              have hway2 : (¬ (m : Int) < (S.size : Int)) ∨ ((m : Int) < (S.size : Int) ∧ ∃ h : m < S.size, ((S[m]'h).toNat : Int) = ch S m ∧ decide (blankN (ch S m)) = false) := by
                rcases Nat.lt_or_ge m S.size with h1 | h1
                · refine Or.inr ⟨by omega, h1, by rw [← ch_eq S m h1], ?_⟩
                  rcases HBL.out.stop with h2 | h2
                  · omega
                  · exact decide_eq_false h2
                · exact Or.inl (by omega)
              rcases hway2 with h5 | ⟨h5, h6, h7, h8⟩
              · have hdd : decide ((m : Int) < (S.size : Int)) = false := decide_eq_false h5
                go_wp2_with fail
                have hh0 : (wr.alloc (.cells #[.int .u8 90, .int .u8 77] 5)).heap[wr.heap.size]? = some (.cells #[.int .u8 90, .int .u8 77] 5 (0, 0)) := heap_new wr _
                have hb0 : Below W.heap.size W (wr.alloc (.cells #[.int .u8 90, .int .u8 77] 5)) := HBM.out.alloc HBM.out.size _
                obtain ⟨hq, hhq⟩ : ∃ hq, wr.heap.size = hq := ⟨_, rfl⟩
                rw [hhq] at hh0
                have HH0 := Lib.hid (And.intro hh0 hb0)
                clear hh0 hb0 HBM
                go_wp2_with fail
                rw [hhq]
                go_loopg [4, 6, 83] 2 (fun q iv sv tv wx => ∃ z : Nat, q + z = 2 ∧ iv = .int .i64 (plM S m z : Nat) ∧ sv = .string ⟨(nmM S m L z).toArray⟩ ∧ tv = .int .i64 z ∧ wx.heap[hq]? = some (.cells #[.int .u8 90, .int .u8 77] 5 (0, 0)) ∧ Below W.heap.size W wx)
                case atStart => exact ⟨0, by omega, rfl, rfl, rfl, HH0.out⟩
                case round =>
                  clear HH0
                  obtain ⟨z, hqz, rfl, rfl, rfl, hhh, hbb⟩ := hrel
                  have cc0 : wr.cell? ⟨hq, 0, none⟩ = some (.int .u8 90) := by rw [Lib.cell_of_heap hhh]; rfl
                  have cc1 : wr.cell? ⟨hq, 1, none⟩ = some (.int .u8 77) := by rw [Lib.cell_of_heap hhh]; rfl
                  have HHH := Lib.hid hhh
                  have HBB := Lib.hid hbb
                  clear hhh hbb
                  rcases (show z = 0 ∨ z = 1 ∨ z = 2 by omega) with rfl | rfl | rfl
                  · obtain rfl : gk = 1 + 1 := by omega
                    have hcv := fun wx => conv_one wx 90 (by decide)
                    change ∀ wx : World, Sem.run _ (convert _ _ _) (wx.alloc (.cells #[.int .u8 90] _)) = .ok _ (wx.alloc (.cells #[.int .u8 90] _)) at hcv
                    have hyes := step_yes S m L 0 90 (by decide)
                    have hno := step_no S m L 0 90 (by decide)
                    have hlenm : (⟨(nmM S m L 0).toArray⟩ : ByteArray).size ≤ 2002 := by rw [size_list]; exact Nat.le_trans (nmM_len S m L 0) (by omega)
                    have hple := plM_le S m 0 hks
                    have hend := ch_end S (plM S m 0)
                    have hsg := fun wx => sGreat_any (ch S (plM S m 0)) wx (HS.out.lt _)
                    have hceq := ch_eq S (plM S m 0)
                    obtain ⟨p, hp⟩ : ∃ p, plM S m 0 = p := ⟨_, rfl⟩
                    rw [hp] at hyes hno hple hend hsg hceq ⊢
                    obtain ⟨s0, hs0⟩ : ∃ s0 : ByteArray, (⟨(nmM S m L 0).toArray⟩ : ByteArray) = s0 := ⟨_, rfl⟩
                    have hnm0 : nmM S m L 1 = nmM S m L 0 → (⟨(nmM S m L 1).toArray⟩ : ByteArray) = s0 := fun h => by rw [h]; exact hs0
                    rw [hs0] at hyes hlenm ⊢
                    have HSG := Lib.hid hsg
                    have HNM0 := Lib.hid hnm0
                    have HNO := Lib.hid hno
                    have HYES := Lib.hid hyes
                    have HEND := Lib.hid hend
                    clear hsg hnm0 hno hyes hend hp hs0
                    rcases Nat.lt_or_ge p S.size with hps | hps
                    rotate_left
                    · have hlt : ¬ (p : Int) < (S.size : Int) := by omega
                      have h0 := HEND.out hps
                      have hn := HNO.out (by rw [h0]; decide)
                      have HN := Lib.hid hn
                      clear h0 hn
                      go_wp2_with fail
                      go_roundg 1
                      case measure => omega
                      case rel => exact ⟨1, by omega, by rw [HN.out.1], by rw [HNM0.out HN.out.2], by first | rfl | go_num, HHH.out, HBB.out⟩
                    have hlt : (p : Int) < (S.size : Int) := by omega
                    have hyi : ((S[p]'hps).toNat : Int) = ch S p := by rw [← hceq hps]
                    obtain ⟨d, hd⟩ : ∃ d, ch S p = d := ⟨_, rfl⟩
                    rw [hd] at hyi HSG HNO HYES
                    clear hd hceq
                    by_cases hz : greatN d = 90
                    · have hzb : ((greatN d : Int) == 90) = true := by rw [beq_iff_eq]; omega
                      have hy := HYES.out hz
                      have HY := Lib.hid hy
                      clear hz hy
                      go_wp2_with fail
                      refine (HSG.out _).mono ?_
                      rintro en w7 ⟨rfl, rfl⟩
                      go_wp2_with fail
                      rw [show (s0 ++ ⟨#[90]⟩ : ByteArray) = _ from HY.out.2]
                      go_roundg 1
                      case measure => omega
                      case rel => exact ⟨1, by omega, by rw [HY.out.1]; go_num, rfl, by first | rfl | go_num, (Below.heap_alloc _ _ _ (heap_lt HHH.out)).trans HHH.out, HBB.out.alloc HBB.out.size _⟩
                    · have hzb : ((greatN d : Int) == 90) = false := by rw [beq_eq_false_iff_ne]; omega
                      have hn := HNO.out hz
                      have HN := Lib.hid hn
                      clear hz hn
                      go_wp2_with fail
                      refine (HSG.out _).mono ?_
                      rintro en w7 ⟨rfl, rfl⟩
                      go_wp2_with fail
                      go_roundg 1
                      case measure => omega
                      case rel => exact ⟨1, by omega, by rw [HN.out.1], by rw [HNM0.out HN.out.2], by first | rfl | go_num, HHH.out, HBB.out⟩

                  · obtain rfl : gk = 0 + 1 := by omega
                    have hcv := fun wx => conv_one wx 77 (by decide)
                    change ∀ wx : World, Sem.run _ (convert _ _ _) (wx.alloc (.cells #[.int .u8 77] _)) = .ok _ (wx.alloc (.cells #[.int .u8 77] _)) at hcv
                    have hyes := step_yes S m L 1 77 (by decide)
                    have hno := step_no S m L 1 77 (by decide)
                    have hlenm : (⟨(nmM S m L 1).toArray⟩ : ByteArray).size ≤ 2002 := by rw [size_list]; exact Nat.le_trans (nmM_len S m L 1) (by omega)
                    have hple := plM_le S m 1 hks
                    have hend := ch_end S (plM S m 1)
                    have hsg := fun wx => sGreat_any (ch S (plM S m 1)) wx (HS.out.lt _)
                    have hceq := ch_eq S (plM S m 1)
                    obtain ⟨p, hp⟩ : ∃ p, plM S m 1 = p := ⟨_, rfl⟩
                    rw [hp] at hyes hno hple hend hsg hceq ⊢
                    obtain ⟨s0, hs0⟩ : ∃ s0 : ByteArray, (⟨(nmM S m L 1).toArray⟩ : ByteArray) = s0 := ⟨_, rfl⟩
                    have hnm0 : nmM S m L 2 = nmM S m L 1 → (⟨(nmM S m L 2).toArray⟩ : ByteArray) = s0 := fun h => by rw [h]; exact hs0
                    rw [hs0] at hyes hlenm ⊢
                    have HSG := Lib.hid hsg
                    have HNM0 := Lib.hid hnm0
                    have HNO := Lib.hid hno
                    have HYES := Lib.hid hyes
                    have HEND := Lib.hid hend
                    clear hsg hnm0 hno hyes hend hp hs0
                    rcases Nat.lt_or_ge p S.size with hps | hps
                    rotate_left
                    · have hlt : ¬ (p : Int) < (S.size : Int) := by omega
                      have h0 := HEND.out hps
                      have hn := HNO.out (by rw [h0]; decide)
                      have HN := Lib.hid hn
                      clear h0 hn
                      go_wp2_with fail
                      go_roundg 0
                      case measure => omega
                      case rel => exact ⟨2, by omega, by rw [HN.out.1], by rw [HNM0.out HN.out.2], by first | rfl | go_num, HHH.out, HBB.out⟩
                    have hlt : (p : Int) < (S.size : Int) := by omega
                    have hyi : ((S[p]'hps).toNat : Int) = ch S p := by rw [← hceq hps]
                    obtain ⟨d, hd⟩ : ∃ d, ch S p = d := ⟨_, rfl⟩
                    rw [hd] at hyi HSG HNO HYES
                    clear hd hceq
                    by_cases hz : greatN d = 77
                    · have hzb : ((greatN d : Int) == 77) = true := by rw [beq_iff_eq]; omega
                      have hy := HYES.out hz
                      have HY := Lib.hid hy
                      clear hz hy
                      go_wp2_with fail
                      refine (HSG.out _).mono ?_
                      rintro en w7 ⟨rfl, rfl⟩
                      go_wp2_with fail
                      rw [show (s0 ++ ⟨#[77]⟩ : ByteArray) = _ from HY.out.2]
                      go_roundg 0
                      case measure => omega
                      case rel => exact ⟨2, by omega, by rw [HY.out.1]; go_num, rfl, by first | rfl | go_num, (Below.heap_alloc _ _ _ (heap_lt HHH.out)).trans HHH.out, HBB.out.alloc HBB.out.size _⟩
                    · have hzb : ((greatN d : Int) == 77) = false := by rw [beq_eq_false_iff_ne]; omega
                      have hn := HNO.out hz
                      have HN := Lib.hid hn
                      clear hz hn
                      go_wp2_with fail
                      refine (HSG.out _).mono ?_
                      rintro en w7 ⟨rfl, rfl⟩
                      go_wp2_with fail
                      go_roundg 0
                      case measure => omega
                      case rel => exact ⟨2, by omega, by rw [HN.out.1], by rw [HNM0.out HN.out.2], by first | rfl | go_num, HHH.out, HBB.out⟩

                  · obtain rfl : gk = 0 := by omega
                    have HLEN := Lib.hid (Nat.le_trans (nmM_len S m L 2) (show L.length + 2 ≤ 3000 by omega))
                    have HBN := HBB
                    change Hid ((mName S m L).length ≤ 3000) at HLEN
                    simp only [plM, nmM]
                    go_wp2_with fail
                    have hnm := fun wx => named_any (mName S m L) wx HLEN.out
                    have HNM := Lib.hid hnm
                    clear hnm
                    go_wp2_with fail
                    refine (HNM.out _).mono ?_
                    rintro en w5 ⟨hsome, hnone, ho5⟩
                    have hb5 := HBN.out.trans (ho5.mono HBN.out.size)
                    cases hnd : named (mName S m L) with
                    | none =>
                      have hen := hnone hnd
                      subst hen
                      have HB5 := Lib.hid hb5
                      have hpn := HPOST.out (by rw [HRN.out, hnd]; rfl)
                      have HPN := Lib.hid hpn
                      clear hsome hnone ho5 hb5 hnd hpn HPOST HK HRN HNM
                      unfold wordC
                      go_wp2_with fail
                      refine HRET.out _ _ ?_
                      go_ret2
                      exact HPN.out _ ((HB5.out.alloc HB5.out.size _).mono hg)
                    | some d =>
                      have hen := hsome d hnd
                      subst hen
                      have hrn : rr = some (d, mEnd S m) := by rw [HRN.out, hnd]; rfl
                      have HKX := Lib.hid (HK.out d _ hrn)
                      have HB5 := Lib.hid hb5
                      clear hsome hnone ho5 hb5 hnd hrn HPOST HK HRN HNM
                      have hg5 : g ≤ w5.heap.size := Nat.le_trans hg HB5.out.size
                      have hrow5 : w5.ownsRow g 32 5 ov l.length (wordsL l) := own_heap HRW.out (fun k hk => HB5.out.block k (HRW.out.lt k hk).2)
                      have HR5 := Lib.hid (hrow5.alloc (.cells (wordC d) 32))
                      have HG5 := Lib.hid (show g ≤ (w5.alloc (.cells (wordC d) 32)).heap.size from Nat.le_trans hg5 ((Below.refl w5.heap.size w5).alloc (Nat.le_refl _) (.cells (wordC d) 32)).size)
                      have HSZ5 := Lib.hid (show (w5.alloc (.cells (wordC d) 32)).heap.size = w5.heap.size + 1 by show (w5.heap.push _).size = _; simp)
                      clear hrow5 hg5
                      unfold wordC
                      go_wp2_with (at_builtin; go_loud (refine push_one _ _ rfl 32 23 5 40 _ rfl info_word5 Tryz.underlying23 rfl (by decide) (by decide) g ov l.length (wordsL l) (w5.alloc (.cells (wordC d) 32)) (wordC d) rfl (by intro u hu; simp [wordC] at hu; rcases hu with rfl | rfl | rfl | rfl | rfl <;> rfl) (by rfl) (by rw [HSZ5.out]; rfl) HR5.out hll HG5.out ?_))
                      intro ov4 w4 ho4 hg4
                      have hb4 : Below g W w4 := ((HB5.out.alloc HB5.out.size _).mono hg).trans hg4.below
                      have HF := Lib.hid (And.intro (show w4.ownsRow g 32 5 ov4 (l.length + 1) (wordsL (l ++ [d])) by rw [wordsL_app]; exact ho4) hb4)
                      clear ho4 hg4 hb4
                      go_wp2_with fail
                      exact HKX.out ov4 w4 _ _ _ _ _ _ _ _ _ _ _ _ _ _ _ _ _ _ _ _ _ _ _ _ _ _ _ _ _ _ _ _ _ _ _ _ _ _ _ _ _ _ _ _ _ _ _ _ _ _ _ _ _ _ _ _ _ _ _ _ _ _ _ _ _ _ _ _ _ _ _ _ _ _ _ _ _ _ _ _ _ _ _ _ _ _ _ _ _ _ _ _ _ _ _ _ _ _ _ _ _ _ _ _ _ _ _ _ _ _ _ _ _ _ _ _ _ _ _ _ _ _ _ _ _ _ _ _ _ _ _ _ _ _ _ _ _ _ _ _ _ _ _ _ _ _ _ _ _ _ _ _ _ _ _ _ _ _ _ _ _ _ _ _ _ _ _ _ _ _ _ _ _ _ _ _ _ _ _ _ _ _ _ _ _ _ _ _ _ _ _ _ _ _  HF.out.1 HF.out.2

              · have hdd : decide ((m : Int) < (S.size : Int)) = true := decide_eq_true h5
                go_wp2_with fail
                refine (HSB.out _).mono ?_
                rintro en w7 ⟨rfl, rfl⟩
                rw [h8]
                go_wp2_with fail
                have hh0 : (w7.alloc (.cells #[.int .u8 90, .int .u8 77] 5)).heap[w7.heap.size]? = some (.cells #[.int .u8 90, .int .u8 77] 5 (0, 0)) := heap_new w7 _
                have hb0 : Below W.heap.size W (w7.alloc (.cells #[.int .u8 90, .int .u8 77] 5)) := HBM.out.alloc HBM.out.size _
                obtain ⟨hq, hhq⟩ : ∃ hq, w7.heap.size = hq := ⟨_, rfl⟩
                rw [hhq] at hh0
                have HH0 := Lib.hid (And.intro hh0 hb0)
                clear hh0 hb0 HBM
                go_wp2_with fail
                rw [hhq]
                go_loopg [4, 6, 83] 2 (fun q iv sv tv wx => ∃ z : Nat, q + z = 2 ∧ iv = .int .i64 (plM S m z : Nat) ∧ sv = .string ⟨(nmM S m L z).toArray⟩ ∧ tv = .int .i64 z ∧ wx.heap[hq]? = some (.cells #[.int .u8 90, .int .u8 77] 5 (0, 0)) ∧ Below W.heap.size W wx)
                case atStart => exact ⟨0, by omega, rfl, rfl, rfl, HH0.out⟩
                case round =>
                  clear HH0
                  obtain ⟨z, hqz, rfl, rfl, rfl, hhh, hbb⟩ := hrel
                  have cc0 : wr.cell? ⟨hq, 0, none⟩ = some (.int .u8 90) := by rw [Lib.cell_of_heap hhh]; rfl
                  have cc1 : wr.cell? ⟨hq, 1, none⟩ = some (.int .u8 77) := by rw [Lib.cell_of_heap hhh]; rfl
                  have HHH := Lib.hid hhh
                  have HBB := Lib.hid hbb
                  clear hhh hbb
                  rcases (show z = 0 ∨ z = 1 ∨ z = 2 by omega) with rfl | rfl | rfl
                  · obtain rfl : gk = 1 + 1 := by omega
                    have hcv := fun wx => conv_one wx 90 (by decide)
                    change ∀ wx : World, Sem.run _ (convert _ _ _) (wx.alloc (.cells #[.int .u8 90] _)) = .ok _ (wx.alloc (.cells #[.int .u8 90] _)) at hcv
                    have hyes := step_yes S m L 0 90 (by decide)
                    have hno := step_no S m L 0 90 (by decide)
                    have hlenm : (⟨(nmM S m L 0).toArray⟩ : ByteArray).size ≤ 2002 := by rw [size_list]; exact Nat.le_trans (nmM_len S m L 0) (by omega)
                    have hple := plM_le S m 0 hks
                    have hend := ch_end S (plM S m 0)
                    have hsg := fun wx => sGreat_any (ch S (plM S m 0)) wx (HS.out.lt _)
                    have hceq := ch_eq S (plM S m 0)
                    obtain ⟨p, hp⟩ : ∃ p, plM S m 0 = p := ⟨_, rfl⟩
                    rw [hp] at hyes hno hple hend hsg hceq ⊢
                    obtain ⟨s0, hs0⟩ : ∃ s0 : ByteArray, (⟨(nmM S m L 0).toArray⟩ : ByteArray) = s0 := ⟨_, rfl⟩
                    have hnm0 : nmM S m L 1 = nmM S m L 0 → (⟨(nmM S m L 1).toArray⟩ : ByteArray) = s0 := fun h => by rw [h]; exact hs0
                    rw [hs0] at hyes hlenm ⊢
                    have HSG := Lib.hid hsg
                    have HNM0 := Lib.hid hnm0
                    have HNO := Lib.hid hno
                    have HYES := Lib.hid hyes
                    have HEND := Lib.hid hend
                    clear hsg hnm0 hno hyes hend hp hs0
                    rcases Nat.lt_or_ge p S.size with hps | hps
                    rotate_left
                    · have hlt : ¬ (p : Int) < (S.size : Int) := by omega
                      have h0 := HEND.out hps
                      have hn := HNO.out (by rw [h0]; decide)
                      have HN := Lib.hid hn
                      clear h0 hn
                      go_wp2_with fail
                      go_roundg 1
                      case measure => omega
                      case rel => exact ⟨1, by omega, by rw [HN.out.1], by rw [HNM0.out HN.out.2], by first | rfl | go_num, HHH.out, HBB.out⟩
                    have hlt : (p : Int) < (S.size : Int) := by omega
                    have hyi : ((S[p]'hps).toNat : Int) = ch S p := by rw [← hceq hps]
                    obtain ⟨d, hd⟩ : ∃ d, ch S p = d := ⟨_, rfl⟩
                    rw [hd] at hyi HSG HNO HYES
                    clear hd hceq
                    by_cases hz : greatN d = 90
                    · have hzb : ((greatN d : Int) == 90) = true := by rw [beq_iff_eq]; omega
                      have hy := HYES.out hz
                      have HY := Lib.hid hy
                      clear hz hy
                      go_wp2_with fail
                      refine (HSG.out _).mono ?_
                      rintro en w7 ⟨rfl, rfl⟩
                      go_wp2_with fail
                      rw [show (s0 ++ ⟨#[90]⟩ : ByteArray) = _ from HY.out.2]
                      go_roundg 1
                      case measure => omega
                      case rel => exact ⟨1, by omega, by rw [HY.out.1]; go_num, rfl, by first | rfl | go_num, (Below.heap_alloc _ _ _ (heap_lt HHH.out)).trans HHH.out, HBB.out.alloc HBB.out.size _⟩
                    · have hzb : ((greatN d : Int) == 90) = false := by rw [beq_eq_false_iff_ne]; omega
                      have hn := HNO.out hz
                      have HN := Lib.hid hn
                      clear hz hn
                      go_wp2_with fail
                      refine (HSG.out _).mono ?_
                      rintro en w7 ⟨rfl, rfl⟩
                      go_wp2_with fail
                      go_roundg 1
                      case measure => omega
                      case rel => exact ⟨1, by omega, by rw [HN.out.1], by rw [HNM0.out HN.out.2], by first | rfl | go_num, HHH.out, HBB.out⟩

                  · obtain rfl : gk = 0 + 1 := by omega
                    have hcv := fun wx => conv_one wx 77 (by decide)
                    change ∀ wx : World, Sem.run _ (convert _ _ _) (wx.alloc (.cells #[.int .u8 77] _)) = .ok _ (wx.alloc (.cells #[.int .u8 77] _)) at hcv
                    have hyes := step_yes S m L 1 77 (by decide)
                    have hno := step_no S m L 1 77 (by decide)
                    have hlenm : (⟨(nmM S m L 1).toArray⟩ : ByteArray).size ≤ 2002 := by rw [size_list]; exact Nat.le_trans (nmM_len S m L 1) (by omega)
                    have hple := plM_le S m 1 hks
                    have hend := ch_end S (plM S m 1)
                    have hsg := fun wx => sGreat_any (ch S (plM S m 1)) wx (HS.out.lt _)
                    have hceq := ch_eq S (plM S m 1)
                    obtain ⟨p, hp⟩ : ∃ p, plM S m 1 = p := ⟨_, rfl⟩
                    rw [hp] at hyes hno hple hend hsg hceq ⊢
                    obtain ⟨s0, hs0⟩ : ∃ s0 : ByteArray, (⟨(nmM S m L 1).toArray⟩ : ByteArray) = s0 := ⟨_, rfl⟩
                    have hnm0 : nmM S m L 2 = nmM S m L 1 → (⟨(nmM S m L 2).toArray⟩ : ByteArray) = s0 := fun h => by rw [h]; exact hs0
                    rw [hs0] at hyes hlenm ⊢
                    have HSG := Lib.hid hsg
                    have HNM0 := Lib.hid hnm0
                    have HNO := Lib.hid hno
                    have HYES := Lib.hid hyes
                    have HEND := Lib.hid hend
                    clear hsg hnm0 hno hyes hend hp hs0
                    rcases Nat.lt_or_ge p S.size with hps | hps
                    rotate_left
                    · have hlt : ¬ (p : Int) < (S.size : Int) := by omega
                      have h0 := HEND.out hps
                      have hn := HNO.out (by rw [h0]; decide)
                      have HN := Lib.hid hn
                      clear h0 hn
                      go_wp2_with fail
                      go_roundg 0
                      case measure => omega
                      case rel => exact ⟨2, by omega, by rw [HN.out.1], by rw [HNM0.out HN.out.2], by first | rfl | go_num, HHH.out, HBB.out⟩
                    have hlt : (p : Int) < (S.size : Int) := by omega
                    have hyi : ((S[p]'hps).toNat : Int) = ch S p := by rw [← hceq hps]
                    obtain ⟨d, hd⟩ : ∃ d, ch S p = d := ⟨_, rfl⟩
                    rw [hd] at hyi HSG HNO HYES
                    clear hd hceq
                    by_cases hz : greatN d = 77
                    · have hzb : ((greatN d : Int) == 77) = true := by rw [beq_iff_eq]; omega
                      have hy := HYES.out hz
                      have HY := Lib.hid hy
                      clear hz hy
                      go_wp2_with fail
                      refine (HSG.out _).mono ?_
                      rintro en w7 ⟨rfl, rfl⟩
                      go_wp2_with fail
                      rw [show (s0 ++ ⟨#[77]⟩ : ByteArray) = _ from HY.out.2]
                      go_roundg 0
                      case measure => omega
                      case rel => exact ⟨2, by omega, by rw [HY.out.1]; go_num, rfl, by first | rfl | go_num, (Below.heap_alloc _ _ _ (heap_lt HHH.out)).trans HHH.out, HBB.out.alloc HBB.out.size _⟩
                    · have hzb : ((greatN d : Int) == 77) = false := by rw [beq_eq_false_iff_ne]; omega
                      have hn := HNO.out hz
                      have HN := Lib.hid hn
                      clear hz hn
                      go_wp2_with fail
                      refine (HSG.out _).mono ?_
                      rintro en w7 ⟨rfl, rfl⟩
                      go_wp2_with fail
                      go_roundg 0
                      case measure => omega
                      case rel => exact ⟨2, by omega, by rw [HN.out.1], by rw [HNM0.out HN.out.2], by first | rfl | go_num, HHH.out, HBB.out⟩

                  · obtain rfl : gk = 0 := by omega
                    have HLEN := Lib.hid (Nat.le_trans (nmM_len S m L 2) (show L.length + 2 ≤ 3000 by omega))
                    have HBN := HBB
                    change Hid ((mName S m L).length ≤ 3000) at HLEN
                    simp only [plM, nmM]
                    go_wp2_with fail
                    have hnm := fun wx => named_any (mName S m L) wx HLEN.out
                    have HNM := Lib.hid hnm
                    clear hnm
                    go_wp2_with fail
                    refine (HNM.out _).mono ?_
                    rintro en w5 ⟨hsome, hnone, ho5⟩
                    have hb5 := HBN.out.trans (ho5.mono HBN.out.size)
                    cases hnd : named (mName S m L) with
                    | none =>
                      have hen := hnone hnd
                      subst hen
                      have HB5 := Lib.hid hb5
                      have hpn := HPOST.out (by rw [HRN.out, hnd]; rfl)
                      have HPN := Lib.hid hpn
                      clear hsome hnone ho5 hb5 hnd hpn HPOST HK HRN HNM
                      unfold wordC
                      go_wp2_with fail
                      refine HRET.out _ _ ?_
                      go_ret2
                      exact HPN.out _ ((HB5.out.alloc HB5.out.size _).mono hg)
                    | some d =>
                      have hen := hsome d hnd
                      subst hen
                      have hrn : rr = some (d, mEnd S m) := by rw [HRN.out, hnd]; rfl
                      have HKX := Lib.hid (HK.out d _ hrn)
                      have HB5 := Lib.hid hb5
                      clear hsome hnone ho5 hb5 hnd hrn HPOST HK HRN HNM
                      have hg5 : g ≤ w5.heap.size := Nat.le_trans hg HB5.out.size
                      have hrow5 : w5.ownsRow g 32 5 ov l.length (wordsL l) := own_heap HRW.out (fun k hk => HB5.out.block k (HRW.out.lt k hk).2)
                      have HR5 := Lib.hid (hrow5.alloc (.cells (wordC d) 32))
                      have HG5 := Lib.hid (show g ≤ (w5.alloc (.cells (wordC d) 32)).heap.size from Nat.le_trans hg5 ((Below.refl w5.heap.size w5).alloc (Nat.le_refl _) (.cells (wordC d) 32)).size)
                      have HSZ5 := Lib.hid (show (w5.alloc (.cells (wordC d) 32)).heap.size = w5.heap.size + 1 by show (w5.heap.push _).size = _; simp)
                      clear hrow5 hg5
                      unfold wordC
                      go_wp2_with (at_builtin; go_loud (refine push_one _ _ rfl 32 23 5 40 _ rfl info_word5 Tryz.underlying23 rfl (by decide) (by decide) g ov l.length (wordsL l) (w5.alloc (.cells (wordC d) 32)) (wordC d) rfl (by intro u hu; simp [wordC] at hu; rcases hu with rfl | rfl | rfl | rfl | rfl <;> rfl) (by rfl) (by rw [HSZ5.out]; rfl) HR5.out hll HG5.out ?_))
                      intro ov4 w4 ho4 hg4
                      have hb4 : Below g W w4 := ((HB5.out.alloc HB5.out.size _).mono hg).trans hg4.below
                      have HF := Lib.hid (And.intro (show w4.ownsRow g 32 5 ov4 (l.length + 1) (wordsL (l ++ [d])) by rw [wordsL_app]; exact ho4) hb4)
                      clear ho4 hg4 hb4
                      go_wp2_with fail
                      exact HKX.out ov4 w4 _ _ _ _ _ _ _ _ _ _ _ _ _ _ _ _ _ _ _ _ _ _ _ _ _ _ _ _ _ _ _ _ _ _ _ _ _ _ _ _ _ _ _ _ _ _ _ _ _ _ _ _ _ _ _ _ _ _ _ _ _ _ _ _ _ _ _ _ _ _ _ _ _ _ _ _ _ _ _ _ _ _ _ _ _ _ _ _ _ _ _ _ _ _ _ _ _ _ _ _ _ _ _ _ _ _ _ _ _ _ _ _ _ _ _ _ _ _ _ _ _ _ _ _ _ _ _ _ _ _ _ _ _ _ _ _ _ _ _ _ _ _ _ _ _ _ _ _ _ _ _ _ _ _ _ _ _ _ _ _ _ _ _ _ _ _ _ _ _ _ _ _ _ _ _ _ _ _ _ _ _ _ _ _ _ _ _ _ _ _ _ _ _ _  HF.out.1 HF.out.2
end Go.Proofs.YtodihpaabkplhaaGreatDoor
