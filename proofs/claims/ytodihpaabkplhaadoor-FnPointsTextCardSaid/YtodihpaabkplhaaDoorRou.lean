/- decimal.RoundUp, RoundDown, Round. -/
import Derived.Test.YtodihpaabkplhaaDoorRnd
namespace Go.Proofs.YtodihpaabkplhaaDoor
open Go.RowKit

/-- RoundUp, from the place ahead of i down. -/
def upD (s : Dec) : Nat → Dec
  | 0 => { s with d := upd s.d 0 49, nd := 1, dp := s.dp + 1 }
  | i + 1 => if (s.d i).toNat < 57 then { s with d := upd s.d i (s.d i + 1), nd := i + 1 } else upD s i
def roundD (s : Dec) (n : Int) : Dec := if n < 0 ∨ (s.nd : Int) ≤ n then s else if srU s n.toNat then upD s n.toNat else trimD { s with nd := n.toNat }

theorem upD_digits {s : Dec} (h : Digits s) : ∀ i, i < s.nd → Digits (upD s i) := by
  intro i
  induction i with
  | zero =>
    intro _
    refine ⟨by simp [upD], fun j hj => ?_⟩
    have : j = 0 := by simp [upD] at hj; omega
    subst this
    simp [upD, upd]
  | succ i ih =>
    intro hi
    unfold upD
    have h8 := h.1
    split
    · rename_i hlt
      refine ⟨by simp only; omega, fun j hj => ?_⟩
      simp only [upd] at hj ⊢
      split
      · subst_vars
        have := h.2 j (by omega)
        have e : (s.d j + 1).toNat = (s.d j).toNat + 1 := by rw [UInt8.toNat_add]; simp; omega
        rw [e]
        omega
      · exact h.2 j (by omega)
    · exact ih (by omega)
theorem upD_dp (s : Dec) : ∀ i, (upD s i).dp = s.dp ∨ (upD s i).dp = s.dp + 1 := by
  intro i
  induction i with
  | zero => exact Or.inr rfl
  | succ i ih =>
    unfold upD
    split
    · exact Or.inl rfl
    · exact ih
theorem roundD_digits {s : Dec} (h : Digits s) (n : Int) : Digits (roundD s n) := by
  unfold roundD
  split
  · exact h
  · split
    · exact upD_digits h _ (by omega)
    · apply trimD_digits
      have := h.1
      exact ⟨by simp only; omega, fun j hj => h.2 j (by simp only at hj; omega)⟩
theorem trimD_dp (s : Dec) : (trimD s).dp = 0 ∨ (trimD s).dp = s.dp := by
  unfold trimD
  simp only
  split
  · exact Or.inl rfl
  · exact Or.inr rfl
theorem roundD_dp (s : Dec) (n : Int) : (roundD s n).dp = 0 ∨ (roundD s n).dp = s.dp ∨ (roundD s n).dp = s.dp + 1 := by
  unfold roundD
  split
  · exact Or.inr (Or.inl rfl)
  · split
    · rcases upD_dp s n.toNat with h | h
      · exact Or.inr (Or.inl h)
      · exact Or.inr (Or.inr h)
    · rcases trimD_dp { s with nd := n.toNat } with h | h
      · exact Or.inl h
      · exact Or.inr (Or.inl h)

set_option maxHeartbeats 2000000 in
theorem roundDown_any (b n : Nat) (s : Dec) (w : World) (h : DecAt w b s) (hs : s.nd ≤ 800) (hn : n < s.nd) :
    Calls Tryd.prog 102 #[.pointer (some ⟨b, 0, none⟩), .int .i64 n] w fun e w' => e = .returned (.tuple #[]) ∧ DecAt w' b (trimD { s with nd := n }) ∧ Below b w w' := by
  have c0 := h.hnd
  have f0 := h.fz 800
  have h1 := h.setNd n (.int .i64 (n : Int)) rfl
  go_enter Tryd.func102, Tryd.ntmps102
  go_wp2_with fail
  refine (trim_any b _ _ h1 (by simp only; omega)).mono ?_
  rintro e w2 ⟨rfl, hd2, hb2⟩
  go_wp2
  go_end0
  exact ⟨rfl, hd2, ((Below.refl b w).setCell (p := ⟨b, 800, none⟩) (Nat.le_refl _) _).trans hb2⟩

set_option maxHeartbeats 2000000 in
theorem roundUp_any (b n : Nat) (s : Dec) (w : World) (h : DecAt w b s) (hs : Digits s) (hn : n < s.nd) (d0 : -100000 ≤ s.dp) (d1 : s.dp ≤ 100000) :
    Calls Tryd.prog 101 #[.pointer (some ⟨b, 0, none⟩), .int .i64 n] w fun e w' => e = .returned (.tuple #[]) ∧ DecAt w' b (upD s n) ∧ Below b w w' := by
  have h800 := hs.1
  have c0 := h.hnd
  have f0 := h.fz 800
  have c1 := h.hdp
  have f1 := h.fz 801
  have hn2 : (n : Int) ≤ 800 := by omega
  go_enter Tryd.func101, Tryd.ntmps101
  go_wp2_with fail
  go_loop [4] (fun v => ∃ i : Nat, i ≤ n ∧ v = .int .i64 ((i : Int) - 1) ∧ Hid (upD s i = upD s n)) (fun v => (intOf v + 1).toNat)
  case atStart => exact ⟨n, Nat.le_refl _, rfl, rfl⟩
  case round =>
    obtain ⟨i, hi, rfl, hu⟩ := hrel
    cases i with
    | zero =>
      have f2 := h.fz 0
      have cz := h.dig (i := 0) (by omega)
      have hm : ((0 : Nat) : Int) - 1 = -1 := by omega
      rw [hm]
      clear hm
      have h2 := ((h.setDig (i := 0) (by omega) 49 (.int .u8 49) rfl).setNd 1 (.int .i64 1) rfl).setDp (s.dp + 1) (.int .i64 (s.dp + 1)) rfl
      go_wp2
      go_end0
      refine ⟨rfl, ?_, (((Below.refl b w).setCell (p := ⟨b, 0, none⟩) (Nat.le_refl _) _).setCell (p := ⟨b, 800, none⟩) (Nat.le_refl _) _).setCell (p := ⟨b, 801, none⟩) (Nat.le_refl _) _⟩
      rw [← hu.out]
      exact h2
    | succ i =>
      have ci := h.dig (i := i) (by omega)
      have fi := h.fz i
      have di := (hs.2 i (by omega)).2
      have hm : ((i + 1 : Nat) : Int) - 1 = (i : Int) := by omega
      rw [hm]
      clear hm
      by_cases h9 : (s.d i).toNat < 57
      · have hb9 : ((s.d i).toNat : Int) < 57 := by omega
        have hx : (((s.d i).toNat : Int) + 1) = (((s.d i + 1).toNat : Nat) : Int) := by
          rw [UInt8.toNat_add]; simp; omega
        have h2 := (h.setDig (i := i) (by omega) (s.d i + 1) (.int .u8 (((s.d i).toNat : Int) + 1)) (by rw [hx])).setNd (i + 1) (.int .i64 ((i : Int) + 1)) rfl
        have hfin : upD s n = { s with d := upd s.d i (s.d i + 1), nd := i + 1 } := by
          rw [← hu.out, upD, if_pos h9]
        have HF := Lib.hid hfin
        clear hfin hx h9 hu
        go_wp2
        go_region
        all_goals go_wp2
        all_goals (refine bodyPost_ret (results_none rfl _ _ _) rfl ?_)
        all_goals (refine ⟨rfl, by rw [HF.out]; exact h2, (((Below.refl b w).setCell (p := ⟨b, i, none⟩) (Nat.le_refl _) _).setCell (p := ⟨b, 800, none⟩) (Nat.le_refl _) _).drew⟩)
      · have hb9 : ¬ ((s.d i).toNat : Int) < 57 := by omega
        have hu1 : Hid (upD s i = upD s n) := by
          have := hu.out
          rw [upD, if_neg h9] at this
          exact this
        clear hu h9
        go_wp2
        go_round
        case rel => exact ⟨i, by omega, rfl, hu1⟩
        case measure => simp [intOf]

set_option maxHeartbeats 2000000 in
theorem round_any_dec (b : Nat) (n : Int) (s : Dec) (w : World) (h : DecAt w b s) (hs : Digits s) (d0 : -100000 ≤ s.dp) (d1 : s.dp ≤ 100000) :
    Calls Tryd.prog 78 #[.pointer (some ⟨b, 0, none⟩), .int .i64 n] w fun e w' => e = .returned (.tuple #[]) ∧ DecAt w' b (roundD s n) ∧ Below b w w' := by
  have h800 := hs.1
  have c0 := h.hnd
  by_cases hneg : n < 0
  · have hfin : roundD s n = s := by unfold roundD; rw [if_pos (Or.inl hneg)]
    have HF := Lib.hid hfin
    clear hfin
    go_enter Tryd.func78, Tryd.ntmps78
    go_wp2
    refine bodyPost_ret (results_none rfl _ _ _) rfl ?_
    exact ⟨rfl, by rw [HF.out]; exact h, Below.refl _ _⟩
  · obtain ⟨k, rfl⟩ : ∃ k : Nat, n = k := ⟨n.toNat, by omega⟩
    by_cases hge : s.nd ≤ k
    · have hfin : roundD s k = s := by unfold roundD; rw [if_pos (Or.inr (by omega))]
      have HF := Lib.hid hfin
      clear hfin
      have hge' : (s.nd : Int) ≤ (k : Int) := by omega
      go_enter Tryd.func78, Tryd.ntmps78
      go_wp2
      refine bodyPost_ret (results_none rfl _ _ _) rfl ?_
      exact ⟨rfl, by rw [HF.out]; exact h, Below.refl _ _⟩
    · have hlt : k < s.nd := by omega
      have hge' : ¬ (s.nd : Int) ≤ (k : Int) := by omega
      have hfin : roundD s k = if srU s k then upD s k else trimD { s with nd := k } := by
        unfold roundD
        rw [if_neg (by omega), Int.toNat_natCast]
      have HF := Lib.hid hfin
      clear hfin
      obtain ⟨t, ht⟩ : ∃ t, srU s k = t := ⟨_, rfl⟩
      go_enter Tryd.func78, Tryd.ntmps78
      go_wp2_with fail
      refine (shouldUp_any b k s _ h hs hlt).mono ?_
      rintro e w1 ⟨rfl, rfl⟩
      rw [ht]
      have HT := Lib.hid ht
      clear ht
      cases t with
      | true =>
        go_wp2_with fail
        refine (roundUp_any b k s _ h hs hlt d0 d1).mono ?_
        rintro e w2 ⟨rfl, hd2, hb2⟩
        go_wp2
        go_end0
        exact ⟨rfl, by rw [HF.out, HT.out]; exact hd2, hb2⟩
      | false =>
        go_wp2_with fail
        refine (roundDown_any b k s _ h h800 hlt).mono ?_
        rintro e w2 ⟨rfl, hd2, hb2⟩
        go_wp2
        go_end0
        exact ⟨rfl, by rw [HF.out, HT.out]; exact hd2, hb2⟩
end Go.Proofs.YtodihpaabkplhaaDoor
