/- The right shift of a decimal as a plain function; what its loops keep. -/
import Derived.Test.YtodihpaabkplhaaGreatDoorLsq
namespace Go.Proofs.YtodihpaabkplhaaGreatDoor

def rsX (k : Nat) : Nat → Nat → Nat → Nat × Nat
  | 0, r, n => (r, n)
  | f + 1, r, n => if n / 2 ^ k = 0 then rsX k f (r + 1) (n * 10) else (r, n)
def rs1 (k : Nat) (d : Nat → UInt8) : Nat → Nat → Nat → Nat × Nat
  | 0, r, n => rsX k 20 r n
  | m + 1, r, n => if n / 2 ^ k = 0 then rs1 k d m (r + 1) (n * 10 + dv d r) else (r, n)
def rs3 (k : Nat) : Nat → (Nat → UInt8) → Nat → Nat → Nat → (Nat → UInt8) × Nat × Nat
  | 0, D, _, w, n => (D, w, n)
  | m + 1, D, r, w, n => rs3 k m (putD D w (n / 2 ^ k)) (r + 1) (w + 1) (n % 2 ^ k * 10 + dv D r)
def rs4 (k : Nat) : Nat → (Nat → UInt8) → Bool → Nat → Nat → (Nat → UInt8) × Bool × Nat
  | 0, D, T, w, _ => (D, T, w)
  | f + 1, D, T, w, n => if n = 0 then (D, T, w) else rs4 k f (putD D w (n / 2 ^ k)) (putT T w (n / 2 ^ k)) (if w < 800 then w + 1 else w) (n % 2 ^ k * 10)
def rightD (s : Dec) (k : Nat) : Dec :=
  let a := rs1 k s.d s.nd 0 0
  let b := rs3 k (s.nd - a.1) s.d a.1 0 a.2
  let c := rs4 k (k + 1) b.1 s.tr b.2.1 b.2.2
  trimD { d := c.1, nd := c.2.2, dp := s.dp - (a.1 - 1), neg := s.neg, tr := c.2.1 }

/-- Picking up digits: r of them read, n the number they tell. -/
structure RInv (k r n : Nat) : Prop where
  up : n < 10 * 2 ^ k
  pos : 0 < r → 10 ^ (r - 1) ≤ n
  zero : r = 0 → n = 0

theorem RInv.small {k r n : Nat} (h : RInv k r n) (k2 : k ≤ 60) (hn : n / 2 ^ k = 0) : r ≤ 19 ∧ n < 2 ^ k := by
  have hn2 : n < 2 ^ k := by
    rcases (Nat.div_eq_zero_iff).1 hn with h1 | h1
    · exact absurd h1 (Nat.ne_of_gt (Nat.two_pow_pos k))
    · exact h1
  refine ⟨?_, hn2⟩
  rcases Nat.lt_or_ge r 20 with h1 | h1
  · omega
  · exfalso
    have h2 := h.pos (by omega)
    have h3 : 10 ^ 19 ≤ 10 ^ (r - 1) := Nat.pow_le_pow_right (by decide) (by omega)
    have h4 : 2 ^ k ≤ 2 ^ 60 := Nat.pow_le_pow_right (by decide) k2
    have h5 : (2 : Nat) ^ 60 < 10 ^ 19 := by decide
    omega

theorem RInv.stepX {k r n : Nat} (h : RInv k r n) (k2 : k ≤ 60) (hr : 0 < r) (hn : n / 2 ^ k = 0) : RInv k (r + 1) (n * 10) := by
  have h1 := (h.small k2 hn).2
  refine ⟨by omega, fun _ => ?_, fun e => by omega⟩
  have h2 := h.pos hr
  obtain ⟨q, rfl⟩ : ∃ q, r = q + 1 := ⟨r - 1, by omega⟩
  rw [Nat.add_sub_cancel] at *
  rw [Nat.pow_succ]
  omega

theorem RInv.step1 {s : Dec} (hs : Good s) {k r n : Nat} (h : RInv k r n) (k2 : k ≤ 60) (hr : r < s.nd) (hn : n / 2 ^ k = 0) : RInv k (r + 1) (n * 10 + dv s.d r) := by
  have h1 := (h.small k2 hn).2
  have hd := hs.dig.2 r hr
  have hd9 : dv s.d r ≤ 9 := by unfold dv; omega
  refine ⟨by omega, fun _ => ?_, fun e => by omega⟩
  rcases Nat.eq_zero_or_pos r with e | e
  · subst e
    have := hs.lead
    have : 1 ≤ dv s.d 0 := by unfold dv; omega
    simp
    omega
  · have h2 := h.pos e
    obtain ⟨q, rfl⟩ : ∃ q, r = q + 1 := ⟨r - 1, by omega⟩
    rw [Nat.add_sub_cancel] at *
    rw [Nat.pow_succ]
    omega

theorem RInv.start (k : Nat) : RInv k 0 0 := ⟨by have := Nat.two_pow_pos k; omega, fun h => absurd h (by omega), fun _ => rfl⟩

/-- When the picking up ends. -/
structure REnd (k r n : Nat) : Prop where
  pos : 0 < r
  le : r ≤ 20
  up : n < 10 * 2 ^ k
  low : 2 ^ k ≤ n

theorem RInv.fin {k r n : Nat} (h : RInv k r n) (hr : r ≤ 20) (hn : ¬ n / 2 ^ k = 0) : REnd k r n := by
  have hp := Nat.two_pow_pos k
  have h1 : 2 ^ k ≤ n := by
    rcases Nat.lt_or_ge n (2 ^ k) with h1 | h1
    · exact absurd (Nat.div_eq_of_lt h1) hn
    · exact h1
  refine ⟨?_, hr, h.up, h1⟩
  rcases Nat.eq_zero_or_pos r with e | e
  · have := h.zero e
    omega
  · exact e

theorem rsX_end (k : Nat) (k2 : k ≤ 60) : ∀ (f r n : Nat), RInv k r n → 0 < r → r ≤ 20 → 20 < r + f → REnd k (rsX k f r n).1 (rsX k f r n).2
  | 0, r, n, _, _, h20, hf => by omega
  | f + 1, r, n, h, hr, h20, hf => by
    rw [rsX]
    by_cases hn : n / 2 ^ k = 0
    · rw [if_pos hn]
      have := (h.small k2 hn).1
      exact rsX_end k k2 f (r + 1) (n * 10) (h.stepX k2 hr hn) (by omega) (by omega) (by omega)
    · rw [if_neg hn]
      exact h.fin h20 hn
theorem rs1_end {s : Dec} (hs : Good s) (k : Nat) (k2 : k ≤ 60) : ∀ (m r n : Nat), RInv k r n → r + m = s.nd → r ≤ 20 → REnd k (rs1 k s.d m r n).1 (rs1 k s.d m r n).2
  | 0, r, n, h, hm, h20 => rsX_end k k2 20 r n h (by have := hs.pos; omega) h20 (by have := hs.pos; omega)
  | m + 1, r, n, h, hm, h20 => by
    rw [rs1]
    by_cases hn : n / 2 ^ k = 0
    · rw [if_pos hn]
      have := (h.small k2 hn).1
      exact rs1_end hs k k2 m (r + 1) _ (h.step1 hs k2 (by omega) hn) (by omega) (by omega)
    · rw [if_neg hn]
      exact h.fin h20 hn

/-- Putting down digits. nd: where the digits that are read end. -/
structure WInv (d0 : Nat → UInt8) (nd k r w : Nat) (D : Nat → UInt8) (n : Nat) : Prop where
  up : n < 10 * 2 ^ k
  first : w = 0 → 2 ^ k ≤ n
  wr : w < r
  orig : ∀ i, r ≤ i → i < nd → D i = d0 i
  dig : ∀ i, i < w → 48 ≤ (D i).toNat ∧ (D i).toNat ≤ 57
  lead : 0 < w → 49 ≤ (D 0).toNat

theorem div_le9 {k n : Nat} (h : n < 10 * 2 ^ k) : n / 2 ^ k < 10 := by
  rw [Nat.div_lt_iff_lt_mul (Nat.two_pow_pos k)]
  exact h
theorem div_ge1 {k n : Nat} (h : 2 ^ k ≤ n) : 1 ≤ n / 2 ^ k := (Nat.le_div_iff_mul_le (Nat.two_pow_pos k)).2 (by omega)

theorem put_digs {D : Nat → UInt8} {k w n : Nat} (up : n < 10 * 2 ^ k) (first : w = 0 → 2 ^ k ≤ n) (dig : ∀ i, i < w → 48 ≤ (D i).toNat ∧ (D i).toNat ≤ 57) (lead : 0 < w → 49 ≤ (D 0).toNat) (hw : w < 800) :
    (∀ i, i < w + 1 → 48 ≤ (putD D w (n / 2 ^ k) i).toNat ∧ (putD D w (n / 2 ^ k) i).toNat ≤ 57) ∧ 49 ≤ (putD D w (n / 2 ^ k) 0).toNat := by
  have h9 := div_le9 up
  have h1 : w = 0 → 1 ≤ n / 2 ^ k := fun e => div_ge1 (first e)
  obtain ⟨q, hq⟩ : ∃ q, n / 2 ^ k = q := ⟨_, rfl⟩
  rw [hq] at h9 h1 ⊢
  constructor
  · intro i hi
    by_cases e : i = w
    · subst e
      rw [putD_at _ _ _ h9 hw]
      omega
    · rw [putD_ne _ _ _ _ e]
      exact dig i (by omega)
  · by_cases e : w = 0
    · subst e
      rw [putD_at _ _ _ h9 hw]
      have := h1 rfl
      omega
    · rw [putD_ne _ _ _ _ (by omega)]
      exact lead (by omega)

theorem WInv.step {s : Dec} (hs : Good s) {k r w : Nat} {D : Nat → UInt8} {n : Nat} (h : WInv s.d s.nd k r w D n) (hr : r < s.nd) : WInv s.d s.nd k (r + 1) (w + 1) (putD D w (n / 2 ^ k)) (n % 2 ^ k * 10 + dv D r) := by
  have h800 := hs.dig.1
  have hw := h.wr
  have hm : n % 2 ^ k < 2 ^ k := Nat.mod_lt _ (Nat.two_pow_pos k)
  have hd := hs.dig.2 r hr
  rw [← h.orig r (Nat.le_refl _) hr] at hd
  have hd9 : dv D r ≤ 9 := by unfold dv; omega
  obtain ⟨p1, p2⟩ := put_digs h.up h.first h.dig h.lead (by omega)
  refine ⟨by omega, fun e => by omega, by omega, ?_, p1, fun _ => p2⟩
  intro i h1 h2
  rw [putD_ne _ _ _ _ (by omega)]
  exact h.orig i (by omega) h2

/-- Writing out what is left. -/
structure TInv (k f w : Nat) (D : Nat → UInt8) (n : Nat) : Prop where
  up : n < 10 * 2 ^ k
  first : w = 0 → 2 ^ k ≤ n
  w8 : w ≤ 800
  dvd : f ≤ k + 1 ∧ 2 ^ (k + 1 - f) ∣ n
  fz : f = 0 → n = 0
  dig : ∀ i, i < w → 48 ≤ (D i).toNat ∧ (D i).toNat ≤ 57
  lead : 0 < w → 49 ≤ (D 0).toNat

theorem TInv.step {k f w : Nat} {D : Nat → UInt8} {n : Nat} (h : TInv k (f + 1) w D n) : TInv k f (if w < 800 then w + 1 else w) (putD D w (n / 2 ^ k)) (n % 2 ^ k * 10) := by
  have hm : n % 2 ^ k < 2 ^ k := Nat.mod_lt _ (Nat.two_pow_pos k)
  have hw8 := h.w8
  obtain ⟨hf, q, hq⟩ := h.dvd
  have hle : k + 1 - (f + 1) ≤ k := by omega
  have hdk : 2 ^ (k + 1 - (f + 1)) ∣ n % 2 ^ k := by
    rw [Nat.dvd_mod_iff (Nat.pow_dvd_pow 2 hle)]
    exact ⟨q, hq⟩
  refine ⟨by omega, ?_, ?_, ⟨by omega, ?_⟩, ?_, ?_, ?_⟩
  · intro e
    split at e <;> omega
  · split <;> omega
  · obtain ⟨t, ht⟩ := hdk
    rw [show k + 1 - f = (k + 1 - (f + 1)) + 1 by omega, Nat.pow_succ, ht]
    exact ⟨t * 5, by rw [Nat.mul_assoc, Nat.mul_assoc]; congr 1; omega⟩
  · intro e
    subst e
    rw [show k + 1 - (0 + 1) = k by omega] at hq
    rw [hq, Nat.mul_mod_right]
  · intro i hi
    by_cases hw : w < 800
    · rw [if_pos hw] at hi
      exact (put_digs h.up h.first h.dig h.lead hw).1 i hi
    · rw [if_neg hw] at hi
      rw [putD_ne _ _ _ _ (by omega)]
      exact h.dig i hi
  · intro _
    by_cases hw : w < 800
    · exact (put_digs h.up h.first h.dig h.lead hw).2
    · rw [putD_ne _ _ _ _ (by omega)]
      exact h.lead (by omega)

theorem rs3_inv {s : Dec} (hs : Good s) (k : Nat) : ∀ (m : Nat) (D : Nat → UInt8) (r w n : Nat), WInv s.d s.nd k r w D n → r + m ≤ s.nd → WInv s.d s.nd k (r + m) (rs3 k m D r w n).2.1 (rs3 k m D r w n).1 (rs3 k m D r w n).2.2
  | 0, _, _, _, _, h, _ => h
  | m + 1, D, r, w, n, h, hm => by
    rw [rs3, show r + (m + 1) = (r + 1) + m by omega]
    exact rs3_inv hs k m _ _ _ _ (h.step hs (by omega)) (by omega)
theorem rs4_inv (k : Nat) : ∀ (f : Nat) (D : Nat → UInt8) (T : Bool) (w n : Nat), TInv k f w D n → (rs4 k f D T w n).2.2 ≤ 800 ∧ 0 < (rs4 k f D T w n).2.2 ∧ (∀ i, i < (rs4 k f D T w n).2.2 → 48 ≤ ((rs4 k f D T w n).1 i).toNat ∧ ((rs4 k f D T w n).1 i).toNat ≤ 57) ∧ 49 ≤ ((rs4 k f D T w n).1 0).toNat
  | 0, D, T, w, n, h => by
    have hw : 0 < w := by
      rcases Nat.eq_zero_or_pos w with e | e
      · have h1 := h.first e
        have h2 := h.fz rfl
        have := Nat.two_pow_pos k
        omega
      · exact e
    exact ⟨h.w8, hw, h.dig, h.lead hw⟩
  | f + 1, D, T, w, n, h => by
    rw [rs4]
    by_cases hn : n = 0
    · rw [if_pos hn]
      have hw : 0 < w := by
        rcases Nat.eq_zero_or_pos w with e | e
        · have h1 := h.first e
          have := Nat.two_pow_pos k
          omega
        · exact e
      exact ⟨h.w8, hw, h.dig, h.lead hw⟩
    · rw [if_neg hn]
      exact rs4_inv k f _ _ _ _ h.step

theorem REnd.winv {s : Dec} {k r n : Nat} (h : REnd k r n) : WInv s.d s.nd k r 0 s.d n := ⟨h.up, fun _ => h.low, h.pos, fun _ _ _ => rfl, fun i hi => by omega, fun hw => absurd hw (by omega)⟩
theorem WInv.tinv {d0 : Nat → UInt8} {nd k r w : Nat} {D : Nat → UInt8} {n : Nat} (h : WInv d0 nd k r w D n) (hr : r ≤ 800) : TInv k (k + 1) w D n :=
  ⟨h.up, h.first, by have := h.wr; omega, ⟨Nat.le_refl _, by simp⟩, fun e => by omega, h.dig, h.lead⟩

theorem rightD_good {s : Dec} (hs : Good s) {k : Nat} (k2 : k ≤ 60) : Good (rightD s k) ∧ s.dp - 19 ≤ (rightD s k).dp ∧ (rightD s k).dp ≤ s.dp := by
  have h1 := rs1_end hs k k2 s.nd 0 0 (RInv.start k) (by omega) (by omega)
  have h800 := hs.dig.1
  have hp := h1.pos
  have hl := h1.le
  obtain ⟨a, ha⟩ : ∃ a, rs1 k s.d s.nd 0 0 = a := ⟨_, rfl⟩
  rw [ha] at h1 hp hl
  have h2 : TInv k (k + 1) (rs3 k (s.nd - a.1) s.d a.1 0 a.2).2.1 (rs3 k (s.nd - a.1) s.d a.1 0 a.2).1 (rs3 k (s.nd - a.1) s.d a.1 0 a.2).2.2 := by
    rcases Nat.lt_or_ge s.nd a.1 with e | e
    · rw [show s.nd - a.1 = 0 by omega]
      show TInv k (k + 1) 0 s.d a.2
      exact (REnd.winv (s := s) h1).tinv (by omega)
    · exact (rs3_inv hs k (s.nd - a.1) s.d a.1 0 a.2 h1.winv (by omega)).tinv (by omega)
  obtain ⟨i1, i2, i3, i4⟩ := rs4_inv k (k + 1) _ s.tr _ _ h2
  have hd : (rightD s k) = trimD { d := (rs4 k (k + 1) (rs3 k (s.nd - a.1) s.d a.1 0 a.2).1 s.tr (rs3 k (s.nd - a.1) s.d a.1 0 a.2).2.1 (rs3 k (s.nd - a.1) s.d a.1 0 a.2).2.2).1, nd := (rs4 k (k + 1) (rs3 k (s.nd - a.1) s.d a.1 0 a.2).1 s.tr (rs3 k (s.nd - a.1) s.d a.1 0 a.2).2.1 (rs3 k (s.nd - a.1) s.d a.1 0 a.2).2.2).2.2, dp := s.dp - (a.1 - 1), neg := s.neg, tr := (rs4 k (k + 1) (rs3 k (s.nd - a.1) s.d a.1 0 a.2).1 s.tr (rs3 k (s.nd - a.1) s.d a.1 0 a.2).2.1 (rs3 k (s.nd - a.1) s.d a.1 0 a.2).2.2).2.1 } := by
    unfold rightD
    simp only [ha]
  rw [hd]
  have hg := trimD_good (s := { d := (rs4 k (k + 1) (rs3 k (s.nd - a.1) s.d a.1 0 a.2).1 s.tr (rs3 k (s.nd - a.1) s.d a.1 0 a.2).2.1 (rs3 k (s.nd - a.1) s.d a.1 0 a.2).2.2).1, nd := (rs4 k (k + 1) (rs3 k (s.nd - a.1) s.d a.1 0 a.2).1 s.tr (rs3 k (s.nd - a.1) s.d a.1 0 a.2).2.1 (rs3 k (s.nd - a.1) s.d a.1 0 a.2).2.2).2.2, dp := s.dp - (a.1 - 1), neg := s.neg, tr := (rs4 k (k + 1) (rs3 k (s.nd - a.1) s.d a.1 0 a.2).1 s.tr (rs3 k (s.nd - a.1) s.d a.1 0 a.2).2.1 (rs3 k (s.nd - a.1) s.d a.1 0 a.2).2.2).2.1 }) ⟨⟨i1, i3⟩, i2, i4⟩
  refine ⟨hg.1, ?_, ?_⟩ <;> rw [hg.2] <;> simp only <;> omega
end Go.Proofs.YtodihpaabkplhaaGreatDoor
