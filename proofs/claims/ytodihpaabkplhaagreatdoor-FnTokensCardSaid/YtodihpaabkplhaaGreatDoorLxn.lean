/- spec.Words. -/
import Derived.Test.YtodihpaabkplhaaGreatDoorLxp
namespace Go.Proofs.YtodihpaabkplhaaGreatDoor
open Go.RowKit

def WEnd (r : Option (List Wd)) (w : World) (en : Ending) (w' : World) : Prop :=
  (∀ l, r = some l → ∃ ov, en = .returned (.tuple #[ov, .bool true]) ∧ w'.ownsRow w.heap.size 32 5 ov l.length (wordsL l)) ∧
  (r = none → ∃ x, en = .returned (.tuple #[x, .bool false])) ∧ Below w.heap.size w w'

theorem wp_as_then {P : Program} {c : Code} {Q : Exit → Act → World → Prop} {a : Act} {w : World} (h : Code.wp P c (Exit.then (fun a w => Q .normal a w) Q) a w) : Code.wp P c Q a w :=
  Code.wp_mono (fun e a w h => by cases e <;> exact h) h
theorem run_let {pf : ByteArray → Option Nat} {S : ByteArray} {j : Nat} {r : Option (List Wd)} (h : Run pf S j r) (hl : letN (ch S j)) :
    ∃ rr, LetTo S j rr ∧ ((rr = none ∧ r = none) ∨ ∃ d p r2, rr = some (d, p) ∧ j < p ∧ p ≤ S.size ∧ Run pf S p r2 ∧ r = r2.map fun x => d :: x) := by
  cases h with
  | done h => unfold ch at hl; rw [dif_neg (by omega)] at hl; exact absurd hl (by unfold letN; omega)
  | blank _ h _ => exact absurd hl (by unfold letN; unfold blankN at h; omega)
  | sign _ h _ => exact absurd hl (by unfold letN; unfold signN at h; omega)
  | @empty _ e r2 h1 h2 h3 h4 h5 => exact ⟨_, ⟨e, h3, Or.inl ⟨h4, rfl⟩⟩, Or.inr ⟨_, _, r2, rfl, h3.lt h1 h2, h3.end_le, h5, rfl⟩⟩
  | @name _ e k d r2 h1 h2 h3 h4 h5 h6 h7 =>
    refine ⟨some (d, mEnd S k), ⟨e, h3, Or.inr ⟨h4, k, h5, by rw [h6]; rfl⟩⟩, Or.inr ⟨d, _, r2, rfl, ?_, mEnd_le S k h5.end_le, h7, rfl⟩⟩
    have := h3.lt h1 h2
    have := h5.le
    have := mEnd_ge S k
    omega
  | @nameBad _ e k h1 h2 h3 h4 h5 h6 => exact ⟨none, ⟨e, h3, Or.inr ⟨h4, k, h5, by rw [h6]; rfl⟩⟩, Or.inl ⟨rfl, rfl⟩⟩
  | num _ h _ _ _ => exact absurd hl (by unfold letN; unfold fstN digN at h; omega)
  | numBad _ h _ _ => exact absurd hl (by unfold letN; unfold fstN digN at h; omega)
  | bad _ _ _ h _ => exact absurd hl h
theorem run_num {pf : ByteArray → Option Nat} {S : ByteArray} {j : Nat} {r : Option (List Wd)} (h : Run pf S j r) (hl : fstN (ch S j)) :
    ∃ e, Span numN S j e ∧ j < e ∧ ((pf (S.extract j e) = none ∧ r = none) ∨ ∃ x r2, pf (S.extract j e) = some x ∧ Run pf S e r2 ∧ r = r2.map fun y => (⟨35, 0, 0, false, x⟩ : Wd) :: y) := by
  cases h with
  | done h => unfold ch at hl; rw [dif_neg (by omega)] at hl; exact absurd hl (by unfold fstN digN; omega)
  | blank _ h _ => exact absurd hl (by unfold fstN digN; unfold blankN at h; omega)
  | sign _ h _ => exact absurd hl (by unfold fstN digN; unfold signN at h; omega)
  | empty _ h _ _ _ => exact absurd hl (by unfold fstN digN; unfold letN at h; omega)
  | name _ h _ _ _ _ _ => exact absurd hl (by unfold fstN digN; unfold letN at h; omega)
  | nameBad _ h _ _ _ _ => exact absurd hl (by unfold fstN digN; unfold letN at h; omega)
  | @num _ e x r2 h1 h2 h3 h4 h5 => exact ⟨e, h3, h3.lt h1 (fst_num h2), Or.inr ⟨x, r2, h4, h5, rfl⟩⟩
  | @numBad _ e h1 h2 h3 h4 => exact ⟨e, h3, h3.lt h1 (fst_num h2), Or.inl ⟨h4, rfl⟩⟩
  | bad _ _ _ _ h => exact absurd hl h

set_option maxRecDepth 100000 in
set_option maxHeartbeats 4000000 in
theorem words_any (S : ByteArray) (r : Option (List Wd)) (sp : Spots) (w : World) (hS : Asc S) (hr : Run pfF S 0 r) (hT : Tab2 sp w) :
    Calls Tryz.prog 5 #[.string S] w (WEnd r w) := by
  obtain ⟨g, hg⟩ : ∃ g, w.heap.size = g := ⟨_, rfl⟩
  have hsz := hS.1
  have HS := Lib.hid hS
  have HR := Lib.hid hr
  have HT := Lib.hid hT
  have HG := Lib.hid hg
  clear hS hr hT hg
  go_enter Tryz.func5, Tryz.ntmps5
  conv => arg 4; dsimp only
  go_wp2_with fail
  go_loopg [2, 4] S.size (fun q ov iv wr => ∃ (j : Nat) (l : List Wd) (r' : Option (List Wd)), j ≤ S.size ∧ q = S.size - j ∧ l.length ≤ j ∧ Run pfF S j r' ∧ r = r'.map (fun x => l ++ x) ∧ iv = .int .i64 j ∧ wr.ownsRow g 32 5 ov l.length (wordsL l) ∧ Below g w wr)
  case atStart => exact ⟨0, [], r, by omega, by omega, by simp, HR.out, by cases r <;> simp, rfl, World.ownsRow_nil _ _ _ _, Below.refl _ _⟩
  case round =>
    obtain ⟨j, l, r', hj, hq, hlj, hrr, hre, rfl, hrow, hbel⟩ := hrel
    have HRW := Lib.hid hrow
    have HRR := Lib.hid hrr
    have HRE := Lib.hid hre
    have HBL := Lib.hid hbel
    clear hrow hrr hre hbel
    rcases Nat.lt_or_ge j S.size with hjs | hjs
    rotate_left
    · have hlt : ((j : Int) < (S.size : Int)) = False := by simp; omega
      have hltf : ¬ ((j : Int) < (S.size : Int)) := by omega
      go_wp2_with fail
      go_ret2
      have hjE : j = S.size := by omega
      have hr0 : r' = some [] := by
        have h := HRR.out
        cases h with
        | done _ => rfl
        | blank h _ _ => omega
        | sign h _ _ => omega
        | empty h _ _ _ _ => omega
        | name h _ _ _ _ _ _ => omega
        | nameBad h _ _ _ _ _ => omega
        | num h _ _ _ _ => omega
        | numBad h _ _ _ => omega
        | bad h _ _ _ _ => omega
      have hre := HRE.out
      rw [hr0] at hre
      refine ⟨fun l' hl' => ?_, fun hn => ?_, by rw [HG.out]; exact HBL.out⟩
      · rw [hre] at hl'
        simp at hl'
        subst hl'
        exact ⟨_, rfl, by rw [HG.out]; exact HRW.out⟩
      · rw [hn] at hre
        cases hre
    have hsb := fun wx => sBlank_any (ch S j) wx (HS.out.lt j)
    have hc := ch_eq S j hjs
    have hb := HS.out.2 j hjs
    have HSB := Lib.hid hsb
    clear hsb
    obtain ⟨c, hcc⟩ : ∃ c, ch S j = c := ⟨_, rfl⟩
    rw [hcc] at hc hb HSB
    have hyi : ((S[j]'hjs).toNat : Int) = c := by omega
    have hlt : (j : Int) < (S.size : Int) := by omega
    have HC := Lib.hid hcc
    clear hcc hc
    by_cases hbk : blankN c
    · have hd : decide (blankN c) = true := decide_eq_true hbk
      have HD := Lib.hid hd
      clear hd
      have hr2 : Run pfF S (j + 1) r' := by
        have h := HRR.out
        have hcc := HC.out
        cases h with
        | done h => omega
        | blank _ _ h => exact h
        | sign _ h _ => rw [hcc] at h; exact absurd h (by unfold signN; unfold blankN at hbk; omega)
        | empty _ h _ _ _ => rw [hcc] at h; exact absurd h (by unfold letN; unfold blankN at hbk; omega)
        | name _ h _ _ _ _ _ => rw [hcc] at h; exact absurd h (by unfold letN; unfold blankN at hbk; omega)
        | nameBad _ h _ _ _ _ => rw [hcc] at h; exact absurd h (by unfold letN; unfold blankN at hbk; omega)
        | num _ h _ _ _ => rw [hcc] at h; exact absurd h (by unfold fstN digN; unfold blankN at hbk; omega)
        | numBad _ h _ _ => rw [hcc] at h; exact absurd h (by unfold fstN digN; unfold blankN at hbk; omega)
        | bad _ h _ _ _ => rw [hcc] at h; exact absurd hbk h
      have HR2 := Lib.hid hr2
      clear hr2
      go_wp2_with fail
      refine (HSB.out _).mono ?_
      rintro en w2 ⟨rfl, rfl⟩
      rw [HD.out]
      go_wp2_with fail
      go_roundg (S.size - (j + 1))
      case measure => omega
      case rel => exact ⟨j + 1, l, r', by omega, rfl, by omega, HR2.out, HRE.out, by go_num, HRW.out, HBL.out⟩
    have hd : decide (blankN c) = false := decide_eq_false hbk
    have HD := Lib.hid hd
    clear hd
    by_cases hsg : signN c
    · have hex : ∃ r2, r' = r2.map (fun x => (⟨c, 0, 0, false, 0⟩ : Wd) :: x) ∧ Run pfF S (j + 1) r2 := by
        have h := HRR.out
        have hcc := HC.out
        cases h with
        | done h => omega
        | blank _ h _ => rw [hcc] at h; exact absurd h hbk
        | sign _ _ h => rw [hcc]; exact ⟨_, rfl, h⟩
        | empty _ h _ _ _ => rw [hcc] at h; exact absurd h (by unfold letN; unfold signN at hsg; omega)
        | name _ h _ _ _ _ _ => rw [hcc] at h; exact absurd h (by unfold letN; unfold signN at hsg; omega)
        | nameBad _ h _ _ _ _ => rw [hcc] at h; exact absurd h (by unfold letN; unfold signN at hsg; omega)
        | num _ h _ _ _ => rw [hcc] at h; exact absurd h (by unfold fstN digN; unfold signN at hsg; omega)
        | numBad _ h _ _ => rw [hcc] at h; exact absurd h (by unfold fstN digN; unfold signN at hsg; omega)
        | bad _ _ h _ _ => rw [hcc] at h; exact absurd hsg h
      obtain ⟨r2, he2, hr2⟩ := hex
      have hwd : (wordC ⟨c, 0, 0, false, 0⟩).toList = [.int .u8 c, .int .i64 0, .int .i64 0, .bool false, .float .f64 0] := rfl
      obtain ⟨dd, hdd⟩ : ∃ dd : Wd, (⟨c, 0, 0, false, 0⟩ : Wd) = dd := ⟨_, rfl⟩
      rw [hdd] at he2 hwd
      have HWD := Lib.hid hwd
      clear hwd hdd
      have HE2 := Lib.hid he2
      have HR2 := Lib.hid hr2
      have hll : l.length ≤ 100000 := by omega
      have hBw : g ≤ wr.heap.size := by have := HBL.out.size; rw [HG.out] at this; exact this
      clear he2 hr2 HC
      rcases hsg with rfl | rfl | rfl
      all_goals (
        go_wp2_with fail
        refine (HSB.out _).mono ?_
        rintro en w2 ⟨rfl, rfl⟩
        rw [HD.out]
        go_wp2_with (at_builtin; refine push_one _ _ rfl 32 23 5 40 _ rfl info_word5 Tryz.underlying23 rfl (by decide) (by decide) g u2 l.length (wordsL l) _ _ rfl (by intro u hu; simp at hu; rcases hu with rfl | rfl | rfl | rfl | rfl <;> rfl) (by rfl) (by rfl) HRW.out hll hBw ?_)
        intro ov w3 ho3 hg3
        have hbel : Below g w w3 := HBL.out.trans hg3.below
        have HO := Lib.hid (And.intro ho3 hbel)
        clear ho3 hg3 hbel
        go_wp2_with fail
        go_roundg (S.size - (j + 1))
        case measure => omega
        case rel => exact ⟨j + 1, l ++ [dd], r2, by omega, rfl, by simp; omega, HR2.out, by rw [HRE.out, HE2.out]; cases r2 <;> simp, by go_num, by rw [List.length_append, wordsL_app, HWD.out]; exact HO.out.1, HO.out.2⟩)
    have hb40 : ((c : Int) == 40) = false := by rw [beq_eq_false_iff_ne]; unfold signN at hsg; omega
    have hb41 : ((c : Int) == 41) = false := by rw [beq_eq_false_iff_ne]; unfold signN at hsg; omega
    have hb44 : ((c : Int) == 44) = false := by rw [beq_eq_false_iff_ne]; unfold signN at hsg; omega
    have hslt := fun wx => sLetter_any c wx (by omega)
    have HLT := Lib.hid hslt
    clear hslt
    have hll : l.length ≤ 100000 := by omega
    have hBw : g ≤ wr.heap.size := by have := HBL.out.size; rw [HG.out] at this; exact this
    by_cases hlet : letN c
    · obtain ⟨rr, hlt2, hways⟩ := run_let HRR.out (by rw [HC.out]; exact hlet)
      have hdl : decide (letN c) = true := decide_eq_true hlet
      have HDL := Lib.hid hdl
      have HLE := Lib.hid (And.intro hlt2 hways)
      clear hdl hlt2 hways hlet hbk hsg
      go_wp2_with fail
      refine (HSB.out _).mono ?_
      rintro en w2 ⟨rfl, rfl⟩
      rw [HD.out]
      go_wp2_with fail
      refine (HLT.out _).mono ?_
      rintro en w2 ⟨rfl, rfl⟩
      rw [HDL.out]
      go_upto_if 44 with fail
      refine wp_cond_true (by rfl) ?_
      refine wp_as_then ?_
      refine w_let S g j rr u2 l w2 _ _ (WEnd r w) _ _ _ _ _ _ _ _ _ _ _ _ _ _ _ _ _ _ _ _ _ _ _ _ _ _ _ _ _ _ _ _ _ _ _ _ _ _ _ _ _ _ _ _ _ _ _ _ _ _ _ _ _ _ _ _ _ _ _ _ _ _ _ _ _ _ _ _ _ _ _ _ _ _ _ _ _ _ _ _ _ _ _ _ _ _ _ _ _ _ _ _ _ _ _ _ _ _ _ _ _ _ _ _ _ _ _ _ _ _ _ _ _ _ _ _ _ _ _ _ _ _ _ _ _ _ _ _ _ _ _ _ _ _ _ _ _ _ _ _ _ _ _ _ _ _ _ _ _ _ _ _ _ _ _ _ _ _ _ _ _ _ _ _ _ _ _ _ _ _ _ _ _ _ _ _ _ _ _ _ _ _ _ _ _ _ _ _ _ _ _ _ _ _ _ _ _ HS.out hjs HLE.out.1 HRW.out hBw hll (fun _ _ h => h) ?_ ?_
      · intro hn w' hb
        have hr0 : r' = none := by
          rcases HLE.out.2 with ⟨_, h⟩ | ⟨d, p, r2, h, _⟩
          · exact h
          · rw [hn] at h; cases h
        exact ⟨fun l' hl' => (by rw [HRE.out, hr0] at hl'; cases hl'), fun _ => ⟨_, rfl⟩, by rw [HG.out]; exact HBL.out.trans hb⟩
      · intro d p hrr ov2 w'
        intros
        rename_i ho hb
        obtain ⟨r2, hjp, hps, hr2, hre2⟩ : ∃ r2, j < p ∧ p ≤ S.size ∧ Run pfF S p r2 ∧ r' = r2.map fun x => d :: x := by
          rcases HLE.out.2 with ⟨h, _⟩ | ⟨d2, p2, r2, h, h1, h2, h3, h4⟩
          · rw [hrr] at h; cases h
          · rw [hrr] at h; cases h; exact ⟨r2, h1, h2, h3, h4⟩
        have HF := Lib.hid (And.intro ho (And.intro (HBL.out.trans hb) (And.intro hr2 hre2)))
        clear ho hb hr2 hre2 hrr HRR HRW HBL HLE HSB HLT HDL HD HC hyi hlt
        simp only [Exit.inBlock, Exit.then]
        go_wp2_with fail
        go_roundg (S.size - p)
        case measure => omega
        case rel => exact ⟨p, l ++ [d], r2, hps, rfl, by simp; omega, HF.out.2.2.1, by rw [HRE.out, HF.out.2.2.2]; cases r2 <;> simp, rfl, by rw [List.length_append]; exact HF.out.1, HF.out.2.1⟩
    have hdl : decide (letN c) = false := decide_eq_false hlet
    have HDL := Lib.hid hdl
    clear hdl
    by_cases hfst : fstN c
    · obtain ⟨e, hse, hje, hways⟩ := run_num HRR.out (by rw [HC.out]; exact hfst)
      have hway : ((48 : Int) ≤ c ∧ (c : Int) ≤ 57 ∧ ((c : Int) == 45) = false ∧ ((c : Int) == 46) = false) ∨ c = 45 ∨ c = 46 := by
        have h : ((48 : Int) ≤ c ∧ (c : Int) ≤ 57) ∨ c = 45 ∨ c = 46 := by unfold fstN digN at hfst; omega
        rcases h with ⟨h1, h2⟩ | h | h
        · exact Or.inl ⟨h1, h2, by rw [beq_eq_false_iff_ne]; omega, by rw [beq_eq_false_iff_ne]; omega⟩
        · exact Or.inr (Or.inl h)
        · exact Or.inr (Or.inr h)
      have hee := hse.end_le
      have HT2 := Lib.hid (HT.out.below (HG.out ▸ HBL.out : Below w.heap.size w wr))
      have HLE := Lib.hid (And.intro hse (And.intro hje hways))
      clear hse hways hlet hbk hsg hfst
      obtain ⟨W, hW⟩ : ∃ W, wr = W := ⟨_, rfl⟩
      subst hW
      rcases hway with ⟨h48, h57, hx45, hx46⟩ | rfl | rfl
      all_goals (
        go_wp2_with fail
        refine (HSB.out _).mono ?_
        rintro en w2 ⟨rfl, rfl⟩
        rw [HD.out]
        go_wp2_with fail
        refine (HLT.out _).mono ?_
        rintro en w2 ⟨rfl, rfl⟩
        rw [HDL.out]
        go_upto_if 118 with fail
        refine wp_cond_true (by rfl) ?_
        refine wp_as_then ?_
        refine w_num S g j e u2 l sp w2 _ _ (WEnd r w) _ _ _ _ _ _ _ _ _ _ _ _ _ _ _ _ _ _ _ _ _ _ _ _ _ _ _ _ _ _ _ _ _ _ _ _ _ _ _ _ _ _ _ _ _ _ _ _ _ _ _ _ _ _ _ _ _ _ _ _ _ _ _ _ _ _ _ _ _ _ _ _ _ _ _ _ _ _ _ _ _ _ _ _ _ _ _ _ _ _ _ _ _ _ _ _ _ _ _ _ _ _ _ _ _ _ _ _ _ _ _ _ _ _ _ _ _ _ _ _ _ _ _ _ _ _ _ _ _ _ _ _ _ _ _ _ _ _ _ _ _ _ _ _ _ _ _ _ _ _ _ _ _ _ _ _ _ _ _ _ _ _ _ _ _ _ _ _ _ _ _ _ _ _ _ _ _ _ _ _ _ _ _ _ _ _ _ _ _ _ _ _ _ _ _ _ _ HS.out HLE.out.1 hje HT2.out HRW.out hBw hll (fun _ _ h => h) ?_ ?_
        · intro hn w' hb
          have hr0 : r' = none := by
            rcases HLE.out.2.2 with ⟨_, h⟩ | ⟨x, r2, h, _⟩
            · exact h
            · rw [hn] at h; cases h
          exact ⟨fun l' hl' => (by rw [HRE.out, hr0] at hl'; cases hl'), fun _ => ⟨_, rfl⟩, by rw [HG.out]; exact HBL.out.trans hb⟩
        · intro x hx ov2 w'
          intros
          rename_i ho hb
          obtain ⟨r2, hr2, hre2⟩ : ∃ r2, Run pfF S e r2 ∧ r' = r2.map fun y => (⟨35, 0, 0, false, x⟩ : Wd) :: y := by
            rcases HLE.out.2.2 with ⟨h, _⟩ | ⟨x2, r2, h, h3, h4⟩
            · rw [hx] at h; cases h
            · rw [hx] at h; cases h; exact ⟨r2, h3, h4⟩
          have HF := Lib.hid (And.intro ho (And.intro (HBL.out.trans hb) (And.intro hr2 hre2)))
          clear ho hb hr2 hre2 hx HRR HRW HBL HLE HSB HLT HDL HD HC HT2
          simp only [Exit.inBlock, Exit.then]
          go_wp2_with fail
          go_roundg (S.size - e)
          case measure => omega
          case rel => exact ⟨e, l ++ [⟨35, 0, 0, false, x⟩], r2, hee, rfl, by simp; omega, HF.out.2.2.1, by rw [HRE.out, HF.out.2.2.2]; cases r2 <;> simp, rfl, by rw [List.length_append]; exact HF.out.1, HF.out.2.1⟩)
    have hr0 : r' = none := by
      have h := HRR.out
      have hcc := HC.out
      cases h with
      | done h => omega
      | blank _ h _ => rw [hcc] at h; exact absurd h hbk
      | sign _ h _ => rw [hcc] at h; exact absurd h hsg
      | empty _ h _ _ _ => rw [hcc] at h; exact absurd h hlet
      | name _ h _ _ _ _ _ => rw [hcc] at h; exact absurd h hlet
      | nameBad _ _ _ _ _ _ => rfl
      | num _ h _ _ _ => rw [hcc] at h; exact absurd h hfst
      | numBad _ _ _ _ => rfl
      | bad _ _ _ _ _ => rfl
    have hb45 : ((c : Int) == 45) = false := by rw [beq_eq_false_iff_ne]; unfold fstN at hfst; omega
    have hb46 : ((c : Int) == 46) = false := by rw [beq_eq_false_iff_ne]; unfold fstN at hfst; omega
    have hrn : r = none := by rw [HRE.out, hr0]; rfl
    have HRN := Lib.hid hrn
    have hways : ¬ (48 : Int) ≤ c ∨ ((48 : Int) ≤ c ∧ ¬ (c : Int) ≤ 57) := by unfold fstN digN at hfst; omega
    clear hrn hr0 hfst hlet hsg hbk
    rcases hways with h48 | ⟨h48, h57⟩
    all_goals (
      go_wp2_with fail
      refine (HSB.out _).mono ?_
      rintro en w2 ⟨rfl, rfl⟩
      rw [HD.out]
      go_wp2_with fail
      refine (HLT.out _).mono ?_
      rintro en w2 ⟨rfl, rfl⟩
      rw [HDL.out]
      go_wp2_with fail
      go_ret2
      exact ⟨fun l' hl' => (by rw [HRN.out] at hl'; cases hl'), fun _ => ⟨_, rfl⟩, by rw [HG.out]; exact HBL.out⟩)
end Go.Proofs.YtodihpaabkplhaaGreatDoor
