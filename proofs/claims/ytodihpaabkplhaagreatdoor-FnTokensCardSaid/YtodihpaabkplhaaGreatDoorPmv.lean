/- Shifts of a decimal: how its point and its first digit move. -/
import Derived.Test.YtodihpaabkplhaaGreatDoorShf
namespace Go.Proofs.YtodihpaabkplhaaGreatDoor

theorem rsX_lt (k : Nat) : ∀ f r n : Nat, n < 10 ^ r → (rsX k f r n).2 < 10 ^ (rsX k f r n).1
  | 0, _, _, h => h
  | f + 1, r, n, h => by
    rw [rsX]
    by_cases e : n / 2 ^ k = 0
    · rw [if_pos e]
      exact rsX_lt k f (r + 1) (n * 10) (by rw [Nat.pow_succ]; omega)
    · rw [if_neg e]; exact h
theorem rs1_lt {s : Dec} (hs : Good s) (k : Nat) : ∀ m r n : Nat, n < 10 ^ r → r + m = s.nd → (rs1 k s.d m r n).2 < 10 ^ (rs1 k s.d m r n).1
  | 0, r, n, h, _ => rsX_lt k 20 r n h
  | m + 1, r, n, h, hm => by
    rw [rs1]
    by_cases e : n / 2 ^ k = 0
    · rw [if_pos e]
      refine rs1_lt hs k m (r + 1) _ ?_ (by omega)
      have := hs.dig.2 r (by omega)
      unfold dv
      rw [Nat.pow_succ]
      omega
    · rw [if_neg e]; exact h
theorem rsX_ge (k : Nat) : ∀ f r n : Nat, r ≤ (rsX k f r n).1
  | 0, _, _ => Nat.le_refl _
  | f + 1, r, n => by
    rw [rsX]
    split
    · exact Nat.le_trans (Nat.le_succ r) (rsX_ge k f (r + 1) (n * 10))
    · exact Nat.le_refl _
theorem rs1_ge (k : Nat) (d : Nat → UInt8) : ∀ m r n : Nat, r ≤ (rs1 k d m r n).1
  | 0, r, n => rsX_ge k 20 r n
  | m + 1, r, n => by
    rw [rs1]
    split
    · exact Nat.le_trans (Nat.le_succ r) (rs1_ge k d m (r + 1) _)
    · exact Nat.le_refl _
theorem rs3_keep (k : Nat) : ∀ (m : Nat) (D : Nat → UInt8) (r w n : Nat), 0 < w → (rs3 k m D r w n).1 0 = D 0
  | 0, _, _, _, _, _ => rfl
  | m + 1, D, r, w, n, hw => by
    rw [rs3, rs3_keep k m _ _ _ _ (by omega)]
    exact putD_ne D w _ 0 (by omega)
theorem rs3_w (k : Nat) : ∀ (m : Nat) (D : Nat → UInt8) (r w n : Nat), (rs3 k m D r w n).2.1 = w + m
  | 0, _, _, _, _ => rfl
  | m + 1, D, r, w, n => by
    rw [rs3, rs3_w k m]
    omega
theorem rs4_keep (k : Nat) : ∀ (f : Nat) (D : Nat → UInt8) (T : Bool) (w n : Nat), 0 < w → (rs4 k f D T w n).1 0 = D 0
  | 0, _, _, _, _, _ => rfl
  | f + 1, D, T, w, n, hw => by
    rw [rs4]
    by_cases e : n = 0
    · rw [if_pos e]
    · rw [if_neg e, rs4_keep k f _ _ _ _ (by split <;> omega)]
      exact putD_ne D w _ 0 (by omega)

theorem right_facts {s : Dec} (hs : Good s) {k : Nat} (k2 : k ≤ 60) : ∃ r n : Nat, rs1 k s.d s.nd 0 0 = (r, n) ∧ n < 10 ^ r ∧ 2 ^ k ≤ n ∧ n < 10 * 2 ^ k ∧ 1 ≤ r ∧ (rightD s k).dp = s.dp - ((r : Int) - 1) ∧ ((rightD s k).d 0).toNat = n / 2 ^ k + 48 := by
  have h1 := rs1_end hs k k2 s.nd 0 0 (RInv.start k) (by omega) (by omega)
  have h2 := rs1_lt hs k s.nd 0 0 (by simp) (by omega)
  have hg := (rightD_good hs k2).1
  have hp := hg.pos
  obtain ⟨r, n, e⟩ : ∃ r n, rs1 k s.d s.nd 0 0 = (r, n) := ⟨_, _, rfl⟩
  have hdef : rightD s k = trimD { d := (rs4 k (k + 1) (rs3 k (s.nd - r) s.d r 0 n).1 s.tr (rs3 k (s.nd - r) s.d r 0 n).2.1 (rs3 k (s.nd - r) s.d r 0 n).2.2).1, nd := (rs4 k (k + 1) (rs3 k (s.nd - r) s.d r 0 n).1 s.tr (rs3 k (s.nd - r) s.d r 0 n).2.1 (rs3 k (s.nd - r) s.d r 0 n).2.2).2.2, dp := s.dp - ((r : Int) - 1), neg := s.neg, tr := (rs4 k (k + 1) (rs3 k (s.nd - r) s.d r 0 n).1 s.tr (rs3 k (s.nd - r) s.d r 0 n).2.1 (rs3 k (s.nd - r) s.d r 0 n).2.2).2.1 } := by
    unfold rightD
    simp only [e]
  rw [e] at h1 h2
  refine ⟨r, n, e, h2, h1.low, h1.up, h1.pos, ?_, ?_⟩
  · rw [hdef] at hp ⊢
    unfold trimD at hp ⊢
    simp only at hp ⊢
    rw [if_neg (by omega)]
  · rw [hdef]
    show ((rs4 k (k + 1) (rs3 k (s.nd - r) s.d r 0 n).1 s.tr (rs3 k (s.nd - r) s.d r 0 n).2.1 (rs3 k (s.nd - r) s.d r 0 n).2.2).1 0).toNat = _
    have hn9 : n / 2 ^ k < 10 := div_le9 h1.up
    have hn0 : n ≠ 0 := by
      have := h1.low
      have := Nat.two_pow_pos k
      omega
    rcases Nat.eq_zero_or_pos (s.nd - r) with h0 | h0
    · rw [h0]
      show ((rs4 k (k + 1) s.d s.tr 0 n).1 0).toNat = _
      rw [rs4, if_neg hn0, rs4_keep k k _ _ _ _ (by simp)]
      exact putD_at s.d 0 _ hn9 (by omega)
    · obtain ⟨m, hm⟩ : ∃ m, s.nd - r = m + 1 := ⟨s.nd - r - 1, by omega⟩
      rw [hm, rs4_keep k (k + 1) _ _ _ _ (by rw [rs3_w]; omega), rs3, rs3_keep k m _ _ _ _ (by omega)]
      exact putD_at s.d 0 _ hn9 (by omega)

theorem right_prog4 {s : Dec} (hs : Good s) {k : Nat} (k1 : 4 ≤ k) (k2 : k ≤ 60) : (rightD s k).dp ≤ s.dp - 1 := by
  obtain ⟨r, n, _, h1, h2, _, h3, h4, _⟩ := right_facts hs k2
  have h5 : 2 ^ 4 ≤ 2 ^ k := Nat.pow_le_pow_right (by decide) k1
  have h6 : 2 ≤ r := by
    rcases Nat.lt_or_ge r 2 with h | h
    · have : r = 1 := by omega
      subst this
      omega
    · exact h
  omega
theorem right_prog3 {s : Dec} (hs : Good s) : (rightD s 3).dp ≤ s.dp - 1 ∨ (rightD s 3).dp = s.dp ∧ 56 ≤ (s.d 0).toNat ∧ ((rightD s 3).d 0).toNat = 49 := by
  obtain ⟨r, n, e, h1, h2, h2', h3, h4, h5⟩ := right_facts hs (k := 3) (by omega)
  rcases Nat.lt_or_ge r 2 with h | h
  · have hr : r = 1 := by omega
    subst hr
    refine Or.inr ⟨by omega, ?_, by omega⟩
    obtain ⟨q, hq⟩ : ∃ q, s.nd = q + 1 := ⟨s.nd - 1, by have := hs.pos; omega⟩
    rw [hq, rs1, if_pos (by simp)] at e
    rcases Nat.lt_or_ge (dv s.d 0) 8 with h8 | h8
    · exfalso
      cases q with
      | zero =>
        rw [rs1, show (20 : Nat) = 19 + 1 by rfl, rsX, if_pos (by omega)] at e
        have := rsX_ge 3 19 (0 + 1 + 1) ((0 * 10 + dv s.d 0) * 10)
        rw [e] at this
        omega
      | succ q =>
        rw [rs1, if_pos (by omega)] at e
        have := rs1_ge 3 s.d q (0 + 1 + 1) ((0 * 10 + dv s.d 0) * 10 + dv s.d (0 + 1))
        rw [e] at this
        omega
    · unfold dv at h8
      omega
  · exact Or.inl (by omega)

theorem valD_top {d : Nat → UInt8} : ∀ n : Nat, (∀ i, i < n + 1 → 48 ≤ (d i).toNat ∧ (d i).toNat ≤ 57) → dv d 0 * 10 ^ n ≤ valD d (n + 1) ∧ valD d (n + 1) < (dv d 0 + 1) * 10 ^ n
  | 0, _ => by simp [valD]
  | n + 1, h => by
    obtain ⟨h1, h2⟩ := valD_top n (fun i hi => h i (by omega))
    have h3 := h (n + 1) (by omega)
    rw [valD, Nat.pow_succ, ← Nat.mul_assoc, ← Nat.mul_assoc]
    have : dv d (n + 1) ≤ 9 := by unfold dv; omega
    constructor <;> omega

theorem ls1_first {s : Dec} (hs : Good s) {k : Nat} (hV : valD s.d s.nd * 2 ^ k < 10 ^ (s.nd + 0)) : ∀ (r : Nat) (D : Nat → UInt8) (T : Bool) (N : Nat), LInv s k 0 (r + 1) D N → 48 + dv s.d 0 * 2 ^ k ≤ ((ls1 k 0 (r + 1) D T N).1 0).toNat
  | 0, D, T, N, h => by
    have h' := h.step hs hV
    have hlo := h'.lo
    have hd : dv D 0 = dv s.d 0 := by
      unfold dv
      rw [h.orig 0 (by omega)]
    rw [Nat.add_zero] at hV
    have hq : (N + dv D 0 * 2 ^ k) / 10 = 0 := by
      rcases Nat.eq_zero_or_pos ((N + dv D 0 * 2 ^ k) / 10) with h0 | h0
      · exact h0
      · exfalso
        rw [Nat.sub_zero] at hlo
        have h1 : 1 * 10 ^ s.nd ≤ (valD s.d 0 * 2 ^ k + (N + dv D 0 * 2 ^ k) / 10) * 10 ^ s.nd := Nat.mul_le_mul_right _ (by omega)
        omega
    show 48 + dv s.d 0 * 2 ^ k ≤ (putD D (0 + 0) ((N + dv D 0 * 2 ^ k) % 10) 0).toNat
    rw [putD_at D (0 + 0) _ (Nat.mod_lt _ (by decide)) (by omega)]
    rw [hd] at hq ⊢
    omega
  | r + 1, D, T, N, h => by
    rw [ls1]
    exact ls1_first hs hV r _ _ _ (h.step hs hV)

theorem left_zero {s : Dec} (hs : Good s) {k : Nat} (k1 : 1 ≤ k) (k2 : k ≤ 60) (h0 : leftDelta s k = 0) : 48 + dv s.d 0 * 2 ^ k ≤ ((leftD s k).d 0).toNat := by
  obtain ⟨b1, b2, b3⟩ := left_bounds hs k1 k2
  rw [h0] at b2
  have hdef : (leftD s k).d = (ls1 k 0 s.nd s.d s.tr 0).1 := by
    unfold leftD
    simp only [h0]
    rfl
  rw [hdef]
  obtain ⟨q, hq⟩ : ∃ q, s.nd = q + 1 := ⟨s.nd - 1, by have := hs.pos; omega⟩
  have hst := LInv.start s hs k 0
  rw [hq] at hst ⊢
  exact ls1_first hs b2 q s.d s.tr 0 hst

theorem leftDelta_ge (s : Dec) (k : Nat) : (cheatD k).toNat ≤ leftDelta s k + 1 := by
  unfold leftDelta
  split <;> omega
theorem leftDelta_le (s : Dec) (k : Nat) : leftDelta s k ≤ (cheatD k).toNat := by
  unfold leftDelta
  omega

/-- powtab, and what stands for it beyond its end. -/
def powT (i : Nat) : Nat := [1, 3, 6, 9, 13, 16, 19, 23, 26].getD i 27
theorem powT_facts (i : Nat) : 1 ≤ powT i ∧ powT i ≤ 27 ∧ (2 ≤ i → 4 ≤ powT i) ∧ (9 ≤ i → powT i = 27) := by
  unfold powT
  rcases Nat.lt_or_ge i 9 with h | h
  · have : i = 0 ∨ i = 1 ∨ i = 2 ∨ i = 3 ∨ i = 4 ∨ i = 5 ∨ i = 6 ∨ i = 7 ∨ i = 8 := by omega
    rcases this with rfl | rfl | rfl | rfl | rfl | rfl | rfl | rfl | rfl <;> simp
  · have e : ([1, 3, 6, 9, 13, 16, 19, 23, 26] : List Nat)[i]? = none := List.getElem?_eq_none (by simpa using h)
    rw [List.getD, e, Option.getD_none]
    omega
theorem cheat_vals : ∀ i : Fin 8, 2 ≤ (cheatD (powT (i.val + 2))).toNat := by decide +kernel
theorem cheat_27 : (cheatD 27).toNat = 9 := by decide +kernel
theorem cheat_3 : (cheatD 3).toNat = 1 := by decide +kernel
theorem cheat_1 : (cheatD 1).toNat = 1 := by decide +kernel

theorem delta_one {s : Dec} (hs : Good s) (h5 : (s.d 0).toNat < 53) : leftDelta s 1 = 0 := by
  obtain ⟨b1, b2, b3⟩ := left_bounds hs (k := 1) (by omega) (by omega)
  have hle := leftDelta_le s 1
  rw [cheat_1] at hle
  obtain ⟨q, hq⟩ : ∃ q, s.nd = q + 1 := ⟨s.nd - 1, by have := hs.pos; omega⟩
  obtain ⟨t1, t2⟩ := valD_top (d := s.d) q (fun i hi => hs.dig.2 i (by omega))
  rcases Nat.eq_zero_or_pos (leftDelta s 1) with h | h
  · exact h
  · exfalso
    have h1 : leftDelta s 1 = 1 := by omega
    rw [h1, hq, Nat.pow_succ, Nat.pow_succ] at b3
    have h4 : dv s.d 0 + 1 ≤ 5 := by unfold dv; omega
    have h6 : (dv s.d 0 + 1) * 10 ^ q ≤ 5 * 10 ^ q := Nat.mul_le_mul_right _ h4
    omega
theorem delta_three {s : Dec} (hs : Good s) (h : leftDelta s 3 = 0) : (s.d 0).toNat = 49 := by
  obtain ⟨b1, b2, b3⟩ := left_bounds hs (k := 3) (by omega) (by omega)
  obtain ⟨q, hq⟩ : ∃ q, s.nd = q + 1 := ⟨s.nd - 1, by have := hs.pos; omega⟩
  obtain ⟨t1, t2⟩ := valD_top (d := s.d) q (fun i hi => hs.dig.2 i (by omega))
  rw [h, hq, Nat.add_zero, Nat.pow_succ] at b2
  have hl := hs.lead
  rcases Nat.lt_or_ge (s.d 0).toNat 50 with h2 | h2
  · omega
  · exfalso
    have h4 : 2 ≤ dv s.d 0 := by unfold dv; omega
    have h6 : 2 * 10 ^ q ≤ dv s.d 0 * 10 ^ q := Nat.mul_le_mul_right _ h4
    omega

/-- How much floatBits' second loop can still shift, at most. -/
def Pot (s : Dec) : Nat :=
  if 0 < s.dp then 0 else if s.dp = 0 then 57 - (s.d 0).toNat else if s.dp = -1 then 20 + (57 - (s.d 0).toNat)
  else if -8 ≤ s.dp then 30 + 26 * (-s.dp).toNat else 300 + 4 * (-s.dp).toNat
theorem Good.d0 {s : Dec} (hs : Good s) : 49 ≤ (s.d 0).toNat ∧ (s.d 0).toNat ≤ 57 := ⟨hs.lead, (hs.dig.2 0 hs.pos).2⟩
theorem Pot_le {s : Dec} (h : -400 ≤ s.dp) : Pot s ≤ 1900 := by
  unfold Pot
  split
  · omega
  · split
    · omega
    · split
      · omega
      · split <;> omega

theorem pot_step {s : Dec} (hs : Good s) (h : s.dp < 0 ∨ s.dp = 0 ∧ (s.d 0).toNat < 53) :
    Pot (leftD s (powT (-s.dp).toNat)) + powT (-s.dp).toNat ≤ Pot s ∧ (leftD s (powT (-s.dp).toNat)).dp ≤ s.dp + 19 ∧ s.dp ≤ (leftD s (powT (-s.dp).toNat)).dp ∧ Good (leftD s (powT (-s.dp).toNat)) := by
  obtain ⟨p1, p2, p3, p4⟩ := powT_facts (-s.dp).toNat
  obtain ⟨g1, g2⟩ := leftD_good hs (k := powT (-s.dp).toNat) p1 (by omega)
  have hd := hs.d0
  have hd' := g1.d0
  have hb := (left_bounds hs (k := powT (-s.dp).toNat) p1 (by omega)).1
  refine ⟨?_, by omega, by omega, g1⟩
  rcases h with h | ⟨h, h5⟩
  · rcases Int.lt_or_le s.dp (-8) with h9 | h9
    · have e27 := p4 (by omega)
      rw [e27] at g1 g2 hd' hb ⊢
      have h8 := leftDelta_ge s 27
      rw [cheat_27] at h8
      unfold Pot
      rw [if_neg (show ¬ 0 < s.dp by omega), if_neg (show ¬ s.dp = 0 by omega), if_neg (show ¬ s.dp = -1 by omega), if_neg (show ¬ -8 ≤ s.dp by omega)]
      rw [g2]
      split
      · omega
      · split
        · omega
        · split
          · omega
          · split <;> omega
    · rcases Int.lt_or_le s.dp (-1) with h2 | h2
      · obtain ⟨i, hi⟩ : ∃ i : Nat, (-s.dp).toNat = i + 2 := ⟨(-s.dp).toNat - 2, by omega⟩
        have hc := cheat_vals ⟨i, by omega⟩
        have hge := leftDelta_ge s (powT (-s.dp).toNat)
        simp only at hc
        rw [← hi] at hc
        have h26 : powT (-s.dp).toNat ≤ 26 := by
          have : (-s.dp).toNat = 2 ∨ (-s.dp).toNat = 3 ∨ (-s.dp).toNat = 4 ∨ (-s.dp).toNat = 5 ∨ (-s.dp).toNat = 6 ∨ (-s.dp).toNat = 7 ∨ (-s.dp).toNat = 8 := by omega
          rcases this with e | e | e | e | e | e | e <;> rw [e] <;> decide
        unfold Pot
        rw [if_neg (show ¬ 0 < s.dp by omega), if_neg (show ¬ s.dp = 0 by omega), if_neg (show ¬ s.dp = -1 by omega), if_pos (show -8 ≤ s.dp by omega)]
        rw [g2]
        split
        · omega
        · split
          · omega
          · split
            · omega
            · split <;> omega
      · have h1 : s.dp = -1 := by omega
        have e3 : powT (-s.dp).toNat = 3 := by rw [h1]; rfl
        rw [e3] at g1 g2 hd' hb ⊢
        have hle := leftDelta_le s 3
        rw [cheat_3] at hle
        rcases Nat.eq_zero_or_pos (leftDelta s 3) with h0 | h0
        · have hz := left_zero hs (k := 3) (by omega) (by omega) h0
          have h49 := delta_three hs h0
          have : dv s.d 0 = 1 := by unfold dv; omega
          rw [this] at hz
          unfold Pot
          rw [if_neg (show ¬ 0 < s.dp by omega), if_neg (show ¬ s.dp = 0 by omega), if_pos h1]
          rw [g2, h0, h1]
          simp
          omega
        · have e1 : leftDelta s 3 = 1 := by omega
          unfold Pot
          rw [if_neg (show ¬ 0 < s.dp by omega), if_neg (show ¬ s.dp = 0 by omega), if_pos h1]
          rw [g2, e1, h1]
          simp
          omega
  · have e1 : powT (-s.dp).toNat = 1 := by rw [h]; rfl
    rw [e1] at g1 g2 hd' hb ⊢
    have h0 := delta_one hs h5
    have hz := left_zero hs (k := 1) (by omega) (by omega) h0
    have : dv s.d 0 = (s.d 0).toNat - 48 := rfl
    unfold Pot
    rw [if_neg (show ¬ 0 < s.dp by omega), if_pos h]
    rw [g2, h0, h]
    simp
    omega

/-- The measure of floatBits' first loop. -/
def Pot1 (s : Dec) : Nat := 2 * s.dp.toNat + if 56 ≤ (s.d 0).toNat then 1 else 0
theorem pot1_step {s : Dec} (hs : Good s) (h : 0 < s.dp) :
    Pot1 (rightD s (powT s.dp.toNat)) < Pot1 s ∧ (rightD s (powT s.dp.toNat)).dp ≤ s.dp ∧ s.dp - 19 ≤ (rightD s (powT s.dp.toNat)).dp ∧ Good (rightD s (powT s.dp.toNat)) := by
  obtain ⟨p1, p2, p3, p4⟩ := powT_facts s.dp.toNat
  obtain ⟨g1, g2, g3⟩ := rightD_good hs (k := powT s.dp.toNat) (by omega)
  refine ⟨?_, g3, g2, g1⟩
  unfold Pot1
  rcases Int.lt_or_le 1 s.dp with h1 | h1
  · have := right_prog4 hs (p3 (by omega)) (by omega)
    split <;> split <;> omega
  · have e1 : s.dp = 1 := by omega
    have e3 : powT s.dp.toNat = 3 := by rw [e1]; rfl
    rw [e3] at *
    rcases right_prog3 hs with h3 | ⟨h3, h4, h5⟩
    · split <;> split <;> omega
    · rw [if_pos h4, if_neg (by omega), h3]
      omega

theorem shiftD_neg (s : Dec) {k : Nat} (k1 : 1 ≤ k) (k2 : k ≤ 60) : shiftD s (-(k : Int)) = rightD s k := by
  unfold shiftD
  rw [if_neg (by omega), if_pos (by omega), Int.neg_neg, Int.toNat_natCast]
  obtain ⟨f, rfl⟩ : ∃ f, k = f + 1 := ⟨k - 1, by omega⟩
  rw [shiftRN, if_neg (by omega)]
theorem shiftD_pos (s : Dec) {k : Nat} (k1 : 1 ≤ k) (k2 : k ≤ 60) : shiftD s (k : Int) = leftD s k := by
  unfold shiftD
  rw [if_pos (by omega), Int.toNat_natCast]
  obtain ⟨f, rfl⟩ : ∃ f, k = f + 1 := ⟨k - 1, by omega⟩
  rw [shiftLN, if_neg (by omega)]
end Go.Proofs.YtodihpaabkplhaaGreatDoor
