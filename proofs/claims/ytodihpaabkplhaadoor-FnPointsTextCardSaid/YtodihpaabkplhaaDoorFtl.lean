/- How long a number's text is at most; that it holds one point at most. -/
import Derived.Test.YtodihpaabkplhaaDoorFmt
namespace Go.Proofs.YtodihpaabkplhaaDoor

theorem fracF_length (D : Nat → UInt8) (nd : Nat) (dp prec : Int) (h : prec ≤ 10000) : (fracF D nd dp prec).length ≤ 10001 := by
  unfold fracF
  split
  · rw [List.length_append, List.length_append, List.length_append, List.length_singleton, List.length_replicate, List.length_map, List.length_range, List.length_replicate]
    unfold tzF midF lzF
    omega
  · simp
theorem intF_length (D : Nat → UInt8) (nd : Nat) (dp : Int) (h : dp ≤ 10000) : (intF D nd dp).length ≤ 10001 := by
  unfold intF
  split
  · rw [List.length_append, List.length_map, List.length_range, List.length_replicate]; omega
  · simp
theorem efgF_length (neg : Bool) (D : Nat → UInt8) (nd : Nat) (dp prec : Int) (h : dp ≤ 10000) (h2 : prec ≤ 10000) : (efgF neg D nd dp prec).length ≤ 20003 := by
  unfold efgF
  rw [List.length_append, List.length_append]
  have h1 := fracF_length D nd dp prec h2
  have h3 := intF_length D nd dp h
  have h4 : (signF neg).length ≤ 1 := by cases neg <;> simp [signF]
  omega

theorem sh_bounds (x : Nat) (he : eF x ≠ 2047) (hm : mantF x ≠ 0) : shN x ≤ 20 ∧ -400 ≤ shE x ∧ shE x ≤ 420 := by
  have h1 := xpF_facts x he hm
  have h2 := shortF_snd (mmF x) (xpF x) h1.1 h1.2
  have h3 := nDig_le (shD x) (shD_lt x)
  have h4 := trimN_le (shDig x) (nDig (shD x))
  unfold shN shE shP
  omega
theorem fx_bounds (x : Nat) (prec : Int) (he : eF x ≠ 2047) (hm : mantF x ≠ 0) (p0 : 0 ≤ prec) (p1 : prec ≤ 20) (h18 : digsF x prec ≤ 18) : fxN x prec ≤ 20 ∧ -20 ≤ fxE x prec ∧ fxE x prec ≤ 420 := by
  have hD := nDig_le (fxU x prec) (fxU_lt x prec)
  have hT := trimN_le (digD (fxU x prec) (nDig (fxU x prec)) zeroB) (nDig (fxU x prec))
  unfold fxN fxE
  by_cases hu : fxU x prec = 0
  · simp only [hu, if_true]
    omega
  · simp only [hu, if_false]
    have hd0 : 0 < digsF x prec := by
      rcases Int.lt_or_le 0 (digsF x prec) with h | h
      · exact h
      · have hUd : fxU x prec = 0 := by unfold fxU; rw [if_neg (by omega)]
        exact absurd hUd hu
    have hp := fixP_facts x (digsF x prec) prec he hm (by omega) h18 p0 p1
    unfold fxP
    omega
theorem de_bounds (x : Nat) (prec : Int) (he : eF x ≠ 2047) (hm : mantF x ≠ 0) : Digits (deR x prec) ∧ -2000 ≤ (deR x prec).dp ∧ (deR x prec).dp ≤ 2000 := by
  have h1 := mantF_lt x
  have h2 := expF_facts x he
  obtain ⟨hg1, hdp1⟩ := assignD_good (mantF x) (by omega) (by omega) zeroDec
  have h3 := nDig_le (mantF x) (by omega)
  obtain ⟨hg2, hdp2, hdp3⟩ := shiftD_good hg1 (expF x - 52)
  have h4 := roundD_digits hg2.dig ((deS x).dp + prec)
  have h5 := roundD_dp (deS x) ((deS x).dp + prec)
  have e : deS x = shiftD (assignD (mantF x) zeroDec) (expF x - 52) := rfl
  have e2 : deR x prec = roundD (deS x) ((deS x).dp + prec) := rfl
  rw [← e] at hdp2 hdp3
  rw [← e] at h4
  rw [← e2] at h4 h5
  exact ⟨h4, by omega, by omega⟩

theorem ftoaF_length (x : Nat) (prec : Int) (p0 : -1 ≤ prec) (p1 : prec ≤ 20) : (ftoaF x prec).length ≤ 20003 := by
  unfold ftoaF
  by_cases h1 : eF x = 2047
  · rw [if_pos h1]
    unfold infText
    split
    · simp
    · split <;> simp
  · rw [if_neg h1]
    by_cases h2 : mantF x = 0
    · rw [if_pos h2]
      exact efgF_length _ _ _ _ _ (by omega) (by omega)
    · rw [if_neg h2]
      by_cases h3 : prec < 0
      · rw [if_pos h3]
        have := sh_bounds x h1 h2
        exact efgF_length _ _ _ _ _ (by omega) (by omega)
      · rw [if_neg h3]
        unfold precText
        by_cases h4 : digsF x prec ≤ 18
        · rw [if_pos h4]
          have := fx_bounds x prec h1 h2 (by omega) p1 h4
          exact efgF_length _ _ _ _ _ (by omega) (by omega)
        · rw [if_neg h4]
          have := de_bounds x prec h1 h2
          exact efgF_length _ _ _ _ _ (by omega) (by omega)

/-- Digits, one point at most among them: none before the point and none behind. -/
def noPt (l : List UInt8) : Prop := ∀ y ∈ l, y ≠ 46
theorem noPt_append {a b : List UInt8} (ha : noPt a) (hb : noPt b) : noPt (a ++ b) := fun y hy => by
  rcases List.mem_append.1 hy with h | h
  · exact ha y h
  · exact hb y h
theorem noPt_rep (n : Nat) : noPt (List.replicate n 48) := fun y hy => by
  rw [(List.mem_replicate.1 hy).2]; decide
theorem noPt_map (f : Nat → UInt8) (n : Nat) (h : ∀ i, i < n → f i ≠ 46) : noPt ((List.range n).map f) := fun y hy => by
  obtain ⟨i, hi, rfl⟩ := List.mem_map.1 hy
  exact h i (by simpa using hi)
theorem noPt_sign (neg : Bool) : noPt (signF neg) := by
  intro y hy
  cases neg
  · simp [signF] at hy
  · simp [signF] at hy
    rw [hy]; decide
theorem noPt_int (D : Nat → UInt8) (nd : Nat) (dp : Int) (h : ∀ i, i < nd → D i ≠ 46) : noPt (intF D nd dp) := by
  unfold intF
  split
  · exact noPt_append (noPt_map D _ (fun i hi => h i (by omega))) (noPt_rep _)
  · intro y hy
    simp at hy
    rw [hy]; decide

/-- A text without a point; or one with a point, and behind it prec digits. -/
theorem efg_point (neg : Bool) (D : Nat → UInt8) (nd : Nat) (dp prec : Int) (h : ∀ i, i < nd → D i ≠ 46) (hp : 0 < prec) : ∃ a b, efgF neg D nd dp prec = a ++ 46 :: b ∧ noPt a ∧ noPt b := by
  refine ⟨signF neg ++ intF D nd dp, List.replicate (lzF dp prec).toNat 48 ++ (List.range (midF nd dp prec).toNat).map (fun i : Nat => D (dp + lzF dp prec + (i : Int)).toNat) ++ List.replicate (tzF nd dp prec).toNat 48, ?_, noPt_append (noPt_sign _) (noPt_int D nd dp h), noPt_append (noPt_append (noPt_rep _) (noPt_map _ _ ?_)) (noPt_rep _)⟩
  · unfold efgF fracF
    rw [if_pos hp]
    simp
  · intro i hi
    refine h _ ?_
    unfold midF lzF at *
    omega

def onePt (l : List UInt8) : Prop := ∀ i j : Nat, l[i]? = some 46 → l[j]? = some 46 → i = j
theorem onePt_no {l : List UInt8} (h : noPt l) : onePt l := fun _ _ hi _ => absurd rfl (h _ (List.mem_of_getElem? hi))
theorem onePt_mid {a b : List UInt8} (ha : noPt a) (hb : noPt b) : onePt (a ++ 46 :: b) := by
  have key : ∀ i : Nat, (a ++ 46 :: b)[i]? = some 46 → i = a.length := by
    intro i hi
    rcases Nat.lt_trichotomy i a.length with h | h | h
    · rw [List.getElem?_append_left h] at hi
      exact absurd rfl (ha _ (List.mem_of_getElem? hi))
    · exact h
    · rw [List.getElem?_append_right (by omega)] at hi
      obtain ⟨m, hm⟩ : ∃ m, i - a.length = m + 1 := ⟨i - a.length - 1, by omega⟩
      rw [hm, List.getElem?_cons_succ] at hi
      exact absurd rfl (hb _ (List.mem_of_getElem? hi))
  intro i j hi hj
  rw [key i hi, key j hj]
theorem onePt_efg (neg : Bool) (D : Nat → UInt8) (nd : Nat) (dp prec : Int) (h : ∀ i, i < nd → D i ≠ 46) (hp : 0 < prec) : onePt (efgF neg D nd dp prec) := by
  obtain ⟨a, b, e, ha, hb⟩ := efg_point neg D nd dp prec h hp
  rw [e]
  exact onePt_mid ha hb
theorem dg_ne (u k : Nat) : Lib.dg u k ≠ 46 := by
  intro h
  have h1 := congrArg UInt8.toNat h
  have : u / 10 ^ k % 10 < 10 := Nat.mod_lt _ (by decide)
  unfold Lib.dg at h1
  simp at h1
  omega
theorem ftoaF_onePt (x : Nat) (prec : Int) (p0 : 0 < prec) (p1 : prec ≤ 20) : onePt (ftoaF x prec) := by
  unfold ftoaF
  by_cases h1 : eF x = 2047
  · rw [if_pos h1]
    refine onePt_no ?_
    unfold infText
    intro y hy
    have key : ∀ l : List UInt8, l.all (· != 46) = true → y ∈ l → y ≠ 46 := fun l hl hm => by
      have := List.all_eq_true.1 hl y hm
      simpa using this
    split at hy
    · exact key _ (by decide) hy
    · split at hy
      · exact key _ (by decide) hy
      · exact key _ (by decide) hy
  · rw [if_neg h1]
    by_cases h2 : mantF x = 0
    · rw [if_pos h2]
      exact onePt_efg _ _ _ _ _ (fun i hi => by omega) p0
    · rw [if_neg h2, if_neg (by omega)]
      unfold precText
      by_cases h4 : digsF x prec ≤ 18
      · rw [if_pos h4]
        refine onePt_efg _ _ _ _ _ (fun i hi => ?_) p0
        unfold fxN at hi
        unfold fxDig
        by_cases hu : fxU x prec = 0
        · rw [if_pos hu] at hi
          omega
        · rw [if_neg hu] at hi ⊢
          have := trimN_le (digD (fxU x prec) (nDig (fxU x prec)) zeroB) (nDig (fxU x prec))
          unfold digD
          rw [if_pos (by omega)]
          exact dg_ne _ _
      · rw [if_neg h4]
        refine onePt_efg _ _ _ _ _ (fun i hi => ?_) p0
        have := (de_bounds x prec h1 h2).1.2 i hi
        intro e
        rw [e] at this
        exact absurd this.1 (by decide)
end Go.Proofs.YtodihpaabkplhaaDoor
