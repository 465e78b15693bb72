/- The left shift of a decimal as a plain function, second part: what its two loops keep. -/
import Derived.Test.YtodihpaabkplhaaGreatDoorLsp
namespace Go.Proofs.YtodihpaabkplhaaGreatDoor

def putD (D : Nat → UInt8) (w m : Nat) : Nat → UInt8 := if w < 800 then upd D w (UInt8.ofNat (m + 48)) else D
def putT (tr : Bool) (w m : Nat) : Bool := if w < 800 then tr else if m = 0 then tr else true
def ls1 (k δ : Nat) : Nat → (Nat → UInt8) → Bool → Nat → (Nat → UInt8) × Bool × Nat
  | 0, D, tr, n => (D, tr, n)
  | r + 1, D, tr, n => ls1 k δ r (putD D (r + δ) ((n + dv D r * 2 ^ k) % 10)) (putT tr (r + δ) ((n + dv D r * 2 ^ k) % 10)) ((n + dv D r * 2 ^ k) / 10)
def ls2 : Nat → (Nat → UInt8) → Bool → Nat → (Nat → UInt8) × Bool
  | 0, D, tr, _ => (D, tr)
  | w + 1, D, tr, n => if n = 0 then (D, tr) else ls2 w (putD D w (n % 10)) (putT tr w (n % 10)) (n / 10)
def leftDelta (s : Dec) (k : Nat) : Nat := (cheatD k).toNat - (if prefLess s.d s.nd 0 (cheatC k) then 1 else 0)
def leftD (s : Dec) (k : Nat) : Dec :=
  let δ := leftDelta s k
  let a := ls1 k δ s.nd s.d s.tr 0
  let b := ls2 δ a.1 a.2.1 a.2.2
  trimD { d := b.1, nd := min (s.nd + δ) 800, dp := s.dp + δ, neg := s.neg, tr := b.2 }

/-- A decimal that is not 0: digits, the first one not 0. -/
structure Good (s : Dec) : Prop where
  dig : Digits s
  pos : 0 < s.nd
  lead : 49 ≤ (s.d 0).toNat

theorem putD_at (D : Nat → UInt8) (w m : Nat) (hm : m < 10) (hw : w < 800) : (putD D w m w).toNat = m + 48 := by
  unfold putD upd
  rw [if_pos hw, if_pos rfl]
  simp; omega
theorem putD_ne (D : Nat → UInt8) (w m i : Nat) (h : i ≠ w) : putD D w m i = D i := by
  unfold putD
  split
  · show (if i = w then _ else D i) = D i
    rw [if_neg h]
  · rfl

theorem valD_lt (d : Nat → UInt8) : ∀ n, (∀ i, i < n → 48 ≤ (d i).toNat ∧ (d i).toNat ≤ 57) → valD d n < 10 ^ n
  | 0, _ => by simp [valD]
  | n + 1, h => by
    have h1 := valD_lt d n (fun i hi => h i (by omega))
    have h2 := h n (by omega)
    rw [valD, Nat.pow_succ]
    unfold dv
    omega
theorem valD_ge (d : Nat → UInt8) (h0 : 49 ≤ (d 0).toNat) : ∀ n, 10 ^ n ≤ valD d (n + 1)
  | 0 => by simp [valD, dv]; omega
  | n + 1 => by
    have := valD_ge d h0 n
    rw [valD, Nat.pow_succ]
    omega

structure LInv (s : Dec) (k δ r : Nat) (D : Nat → UInt8) (N : Nat) : Prop where
  rle : r ≤ s.nd
  orig : ∀ i, i < r → D i = s.d i
  le : N ≤ 2 ^ k
  lo : (valD s.d r * 2 ^ k + N) * 10 ^ (s.nd - r) ≤ valD s.d s.nd * 2 ^ k
  hi : valD s.d s.nd * 2 ^ k < (valD s.d r * 2 ^ k + N + 1) * 10 ^ (s.nd - r)
  dig : ∀ i, r + δ ≤ i → i < min (s.nd + δ) 800 → 48 ≤ (D i).toNat ∧ (D i).toNat ≤ 57
  lead : r = 0 → δ = 0 → 49 ≤ (D 0).toNat

theorem LInv.start (s : Dec) (hs : Good s) (k δ : Nat) : LInv s k δ s.nd s.d 0 := by
  refine ⟨Nat.le_refl _, fun _ _ => rfl, Nat.zero_le _, by simp, by simp, fun i h1 h2 => by omega, fun h => absurd h (by have := hs.pos; omega)⟩

theorem LInv.step {s : Dec} (hs : Good s) {k δ r : Nat} {D : Nat → UInt8} {N : Nat} (h : LInv s k δ (r + 1) D N) (hV : valD s.d s.nd * 2 ^ k < 10 ^ (s.nd + δ)) :
    LInv s k δ r (putD D (r + δ) ((N + dv D r * 2 ^ k) % 10)) ((N + dv D r * 2 ^ k) / 10) := by
  have hr := h.rle
  have hDr := h.orig r (by omega)
  have hdv : dv D r = dv s.d r := by unfold dv; rw [hDr]
  have hd9 : dv s.d r ≤ 9 := by have := hs.dig.2 r (by omega); unfold dv; omega
  have hlo := h.lo
  have hhi := h.hi
  have hle := h.le
  rw [hdv]
  have hP : valD s.d (r + 1) = 10 * valD s.d r + dv s.d r := rfl
  rw [hP] at hlo hhi
  have hpow : 10 ^ (s.nd - r) = 10 ^ (s.nd - (r + 1)) * 10 := by rw [← Nat.pow_succ]; congr 1; omega
  have hK : 1 ≤ 2 ^ k := Nat.one_le_two_pow
  have hdvm : dv s.d r * 2 ^ k ≤ 9 * 2 ^ k := Nat.mul_le_mul_right _ hd9
  have hdv0 : r = 0 → 2 ^ k ≤ dv s.d r * 2 ^ k := fun e => by
    subst e
    have : 1 ≤ dv s.d 0 := by have := hs.lead; unfold dv; omega
    have := Nat.mul_le_mul_right (2 ^ k) this
    omega
  have e1 : (10 * valD s.d r + dv s.d r) * 2 ^ k = 10 * (valD s.d r * 2 ^ k) + dv s.d r * 2 ^ k := by rw [Nat.add_mul, Nat.mul_assoc]
  rw [e1] at hlo hhi
  obtain ⟨G, hG⟩ : ∃ G, dv s.d r * 2 ^ k = G := ⟨_, rfl⟩
  obtain ⟨P, hPe⟩ : ∃ P, valD s.d r * 2 ^ k = P := ⟨_, rfl⟩
  obtain ⟨V, hVe⟩ : ∃ V, valD s.d s.nd * 2 ^ k = V := ⟨_, rfl⟩
  obtain ⟨T, hT⟩ : ∃ T, 10 ^ (s.nd - (r + 1)) = T := ⟨_, rfl⟩
  rw [hG] at hlo hhi hdvm hdv0 ⊢
  rw [hPe] at hlo hhi
  rw [hVe] at hlo hhi hV
  rw [hT] at hlo hhi hpow
  have l1 : (P + (N + G) / 10) * 10 ≤ 10 * P + G + N := by omega
  have l2 : 10 * P + G + N + 1 ≤ (P + (N + G) / 10 + 1) * 10 := by omega
  refine ⟨by omega, ?_, by omega, ?_, ?_, ?_, ?_⟩
  · intro i hi
    rw [putD_ne _ _ _ _ (by omega)]
    exact h.orig i (by omega)
  · rw [hPe, hVe, hpow, Nat.mul_comm T 10, ← Nat.mul_assoc]
    exact Nat.le_trans (Nat.mul_le_mul_right T l1) hlo
  · rw [hPe, hVe, hpow, Nat.mul_comm T 10, ← Nat.mul_assoc]
    exact Nat.lt_of_lt_of_le hhi (Nat.mul_le_mul_right T l2)
  · intro i h1 h2
    by_cases e : i = r + δ
    · subst e
      have : (N + G) % 10 < 10 := Nat.mod_lt _ (by decide)
      rw [putD_at _ _ _ this (by omega)]
      omega
    · rw [putD_ne _ _ _ _ e]
      exact h.dig i (by omega) h2
  · intro e0 eδ
    subst e0 eδ
    have hm10 : (N + G) % 10 < 10 := Nat.mod_lt _ (by decide)
    rw [Nat.zero_add, putD_at _ _ _ hm10 (by omega)]
    have h1 := hdv0 rfl
    have hN0 : (N + G) / 10 = 0 := by
      have h2 : (P + (N + G) / 10) * 10 ^ (s.nd - 0) ≤ V := by
        rw [hpow, Nat.mul_comm T 10, ← Nat.mul_assoc]
        exact Nat.le_trans (Nat.mul_le_mul_right T l1) hlo
      rcases Nat.eq_zero_or_pos ((N + G) / 10) with h3 | h3
      · exact h3
      · exfalso
        have h4 : 1 * 10 ^ (s.nd - 0) ≤ (P + (N + G) / 10) * 10 ^ (s.nd - 0) := Nat.mul_le_mul_right _ (by omega)
        simp only [Nat.sub_zero, Nat.add_zero, Nat.one_mul] at h2 h4 hV
        omega
    omega

/-- M is at most 800. -/
structure LInv2 (M w : Nat) (D : Nat → UInt8) (N : Nat) : Prop where
  up : N < 10 ^ w
  low : 0 < w → 10 ^ (w - 1) ≤ N
  dig : ∀ i, w ≤ i → i < M → 48 ≤ (D i).toNat ∧ (D i).toNat ≤ 57
  lead : w = 0 → 49 ≤ (D 0).toNat

theorem LInv.fin {s : Dec} {k δ : Nat} {D : Nat → UInt8} {N : Nat} (h : LInv s k δ 0 D N) (hV : valD s.d s.nd * 2 ^ k < 10 ^ (s.nd + δ)) (hV2 : 10 ^ (s.nd + δ) ≤ 10 * (valD s.d s.nd * 2 ^ k)) : LInv2 (min (s.nd + δ) 800) δ D N := by
  have hlo := h.lo
  have hhi := h.hi
  have e0 : valD s.d 0 = 0 := rfl
  rw [e0, Nat.zero_mul, Nat.zero_add, Nat.sub_zero] at hlo hhi
  generalize valD s.d s.nd * 2 ^ k = V at *
  rw [Nat.pow_add] at hV hV2
  refine ⟨?_, ?_, fun i h1 h2 => h.dig i (by omega) h2, fun e => h.lead rfl e⟩
  · refine Nat.lt_of_mul_lt_mul_right (a := 10 ^ s.nd) ?_
    rw [Nat.mul_comm (10 ^ δ)]
    omega
  · intro hδ
    obtain ⟨q, rfl⟩ : ∃ q, δ = q + 1 := ⟨δ - 1, by omega⟩
    rw [Nat.add_sub_cancel]
    have h1 : 10 ^ q * 10 ^ s.nd < (N + 1) * 10 ^ s.nd := by
      have e : 10 ^ s.nd * 10 ^ (q + 1) = 10 * (10 ^ q * 10 ^ s.nd) := by rw [Nat.pow_succ, Nat.mul_comm (10 ^ q) 10, ← Nat.mul_assoc, Nat.mul_comm (10 ^ s.nd) 10, Nat.mul_assoc, Nat.mul_comm (10 ^ s.nd)]
      omega
    have := Nat.lt_of_mul_lt_mul_right h1
    omega

theorem LInv2.step {M w : Nat} {D : Nat → UInt8} {N : Nat} (h : LInv2 M (w + 1) D N) (hM : M ≤ 800) : LInv2 M w (putD D w (N % 10)) (N / 10) := by
  have hu := h.up
  have hl := h.low (by omega)
  rw [Nat.add_sub_cancel] at hl
  rw [Nat.pow_succ] at hu
  have hm : N % 10 < 10 := Nat.mod_lt _ (by decide)
  refine ⟨by omega, ?_, ?_, ?_⟩
  · intro hw
    obtain ⟨q, rfl⟩ : ∃ q, w = q + 1 := ⟨w - 1, by omega⟩
    rw [Nat.add_sub_cancel]
    rw [Nat.pow_succ] at hl
    omega
  · intro i h1 h2
    by_cases e : i = w
    · subst e
      rw [putD_at _ _ _ hm (by omega)]
      omega
    · rw [putD_ne _ _ _ _ e]
      exact h.dig i (by omega) h2
  · intro e
    subst e
    rw [putD_at _ _ _ hm (by omega)]
    simp at hl hu
    omega

theorem left_core (V nd k e L q : Nat) (less : Bool) (hq : nd = q + 1) (heL : e + L = k + 1) (hL : L ≤ k) (_he : 1 ≤ e) (he19 : e ≤ 19) (h9 : 10 ^ (e - 1) ≤ 2 ^ k) (h10 : 2 ^ k < 10 ^ e) (hV1 : V < 10 ^ nd) (hV2 : 10 ^ q ≤ V)
    (ht : less = true → V * 10 ^ L < 5 ^ k * 10 ^ nd) (hf : less = false → 5 ^ k * 10 ^ nd ≤ V * 10 ^ L) :
    e - (if less then 1 else 0) ≤ 19 ∧ V * 2 ^ k < 10 ^ (nd + (e - (if less then 1 else 0))) ∧ 10 ^ (nd + (e - (if less then 1 else 0))) ≤ 10 * (V * 2 ^ k) := by
  have h25 : 2 ^ k * 5 ^ k = 10 ^ k := by rw [← Nat.mul_pow]
  have hkL : 10 ^ k = 10 ^ (k - L) * 10 ^ L := by rw [← Nat.pow_add]; congr 1; omega
  have hLp : 0 < 10 ^ L := Nat.pow_pos (by decide)
  have e1 : V * 10 ^ L * 2 ^ k = V * 2 ^ k * 10 ^ L := by rw [Nat.mul_assoc, Nat.mul_comm (10 ^ L), ← Nat.mul_assoc]
  have e2 : 5 ^ k * 10 ^ nd * 2 ^ k = 10 ^ (nd + (k - L)) * 10 ^ L := by
    rw [Nat.mul_assoc, Nat.mul_comm (10 ^ nd), ← Nat.mul_assoc, Nat.mul_comm (5 ^ k), h25, hkL, Nat.pow_add]
    rw [Nat.mul_assoc, Nat.mul_comm (10 ^ L), ← Nat.mul_assoc, Nat.mul_comm (10 ^ (k - L))]
  cases less with
  | true =>
    have hlt := ht rfl
    rw [if_pos rfl]
    refine ⟨by omega, ?_, ?_⟩
    · refine Nat.lt_of_mul_lt_mul_right (a := 10 ^ L) ?_
      have h11 := Nat.mul_lt_mul_of_pos_right hlt (Nat.two_pow_pos k)
      rw [e1, e2] at h11
      rw [show e - 1 = k - L by omega]
      exact h11
    · have h11 : 10 ^ q * 10 ^ (e - 1) ≤ V * 2 ^ k := Nat.mul_le_mul hV2 h9
      rw [hq, Nat.pow_add, Nat.pow_succ, Nat.mul_comm (10 ^ q) 10, Nat.mul_assoc]
      exact Nat.mul_le_mul_left 10 h11
  | false =>
    have hge := hf rfl
    rw [if_neg (by decide), Nat.sub_zero]
    refine ⟨by omega, ?_, ?_⟩
    · rw [Nat.pow_add]
      exact Nat.mul_lt_mul'' hV1 h10
    · have h11 := Nat.mul_le_mul_right (2 ^ k) hge
      rw [e1, e2] at h11
      have h12 := Nat.le_of_mul_le_mul_right h11 hLp
      rw [show nd + e = nd + (k - L) + 1 by omega, Nat.pow_succ]
      omega

theorem digL_lt (d : Nat → UInt8) (nd : Nat) (hd : ∀ i, i < nd → 48 ≤ (d i).toNat ∧ (d i).toNat ≤ 57) : ∀ x ∈ digL d 0 nd, x < 10 := by
  intro x hx
  unfold digL at hx
  obtain ⟨i, hi, e⟩ := List.mem_map.1 hx
  obtain ⟨j, hj, ej⟩ := List.mem_range'.1 hi
  have h2 := hd i (by omega)
  unfold dv at e
  omega
theorem chars_lt (c : List UInt8) (hc : ∀ x ∈ c, 48 ≤ x.toNat ∧ x.toNat ≤ 57) : ∀ x ∈ (c.map fun x => x.toNat - 48), x < 10 := by
  intro x hx
  obtain ⟨y, hy, e⟩ := List.mem_map.1 hx
  have h2 := hc y hy
  omega
theorem pref_spec (d : Nat → UInt8) (nd : Nat) (hd : ∀ i, i < nd → 48 ≤ (d i).toNat ∧ (d i).toNat ≤ 57) (c : List UInt8) (hc : ∀ x ∈ c, 48 ≤ x.toNat ∧ x.toNat ≤ 57) (c' : List Nat) (hc' : (c.map fun x => x.toNat - 48) = c') (hl : lastOk c' = true) :
    (prefLess d nd 0 c = true → valD d nd * 10 ^ c.length < lv c' * 10 ^ nd) ∧ (prefLess d nd 0 c = false → lv c' * 10 ^ nd ≤ valD d nd * 10 ^ c.length) := by
  have hp := prefLess_lex d nd hd c 0 (Nat.zero_le _) hc
  have hcl := chars_lt c hc
  have hlen : c'.length = c.length := by rw [← hc', List.length_map]
  rw [hc'] at hp hcl
  rw [Nat.sub_zero] at hp
  have hspec := lex_spec (digL d 0 nd) c' (digL_lt d nd hd) hcl hl
  rw [lv_digL, hlen, digL_length, ← hp] at hspec
  exact hspec

theorem left_bounds {s : Dec} (hs : Good s) {k : Nat} (k1 : 1 ≤ k) (k2 : k ≤ 60) :
    leftDelta s k ≤ 19 ∧ valD s.d s.nd * 2 ^ k < 10 ^ (s.nd + leftDelta s k) ∧ 10 ^ (s.nd + leftDelta s k) ≤ 10 * (valD s.d s.nd * 2 ^ k) := by
  obtain ⟨h1, h2, h3, h4, _⟩ := cheat_ok ⟨k, by omega⟩
  simp only at h1 h2 h3 h4
  obtain ⟨h5, h6, h7, h8, h9, h10⟩ := h4 k1
  rw [if_neg (by omega)] at h3
  have hδ : leftDelta s k = (cheatD k).toNat - (if prefLess s.d s.nd 0 (cheatC k) then 1 else 0) := rfl
  clear h4
  obtain ⟨C, hC⟩ : ∃ C, cheatC k = C := ⟨_, rfl⟩
  obtain ⟨E, hE⟩ : ∃ E, cheatD k = E := ⟨_, rfl⟩
  rw [hC] at h1 h2 h3 h5 h8 hδ
  rw [hE] at h5 h6 h7 h9 h10 hδ
  clear hC hE
  have hc : ∀ x ∈ C, 48 ≤ x.toNat ∧ x.toNat ≤ 57 := fun x hx => by
    have := List.all_eq_true.1 h1 x hx
    simpa using this
  have hspec := pref_spec s.d s.nd hs.dig.2 C hc _ rfl h2
  rw [h3] at hspec
  have hV1 := valD_lt s.d s.nd hs.dig.2
  obtain ⟨q, hq⟩ : ∃ q, s.nd = q + 1 := ⟨s.nd - 1, by have := hs.pos; omega⟩
  have hV2 := valD_ge s.d hs.lead q
  rw [← hq] at hV2
  obtain ⟨e, he⟩ : ∃ e : Nat, E = (e : Int) := ⟨E.toNat, by omega⟩
  rw [he] at h5 h6 h7 h9 h10 hδ
  have heL : e + C.length = k + 1 := by omega
  rw [show ((e : Int) - 1).toNat = e - 1 by omega] at h9
  rw [Int.toNat_natCast] at h10 hδ
  rw [hδ]
  exact left_core (valD s.d s.nd) s.nd k e C.length q (prefLess s.d s.nd 0 C) hq heL h8 (by omega) (by omega) h9 h10 hV1 hV2 hspec.1 hspec.2

theorem ls1_inv {s : Dec} (hs : Good s) {k δ : Nat} (hV : valD s.d s.nd * 2 ^ k < 10 ^ (s.nd + δ)) : ∀ (r : Nat) (D : Nat → UInt8) (T : Bool) (N : Nat), LInv s k δ r D N → LInv s k δ 0 (ls1 k δ r D T N).1 (ls1 k δ r D T N).2.2
  | 0, _, _, _, h => h
  | r + 1, _, _, _, h => ls1_inv hs hV r _ _ _ (h.step hs hV)
theorem ls2_inv {M : Nat} (hM : M ≤ 800) : ∀ (w : Nat) (D : Nat → UInt8) (T : Bool) (N : Nat), LInv2 M w D N → (∀ i, i < M → 48 ≤ ((ls2 w D T N).1 i).toNat ∧ ((ls2 w D T N).1 i).toNat ≤ 57) ∧ 49 ≤ ((ls2 w D T N).1 0).toNat
  | 0, D, T, N, h => ⟨fun i hi => h.dig i (Nat.zero_le _) hi, h.lead rfl⟩
  | w + 1, D, T, N, h => by
    have hN : N ≠ 0 := by
      have := h.low (by omega)
      have : 0 < 10 ^ (w + 1 - 1) := Nat.pow_pos (by decide)
      omega
    rw [ls2, if_neg hN]
    exact ls2_inv hM w _ _ _ (h.step hM)

theorem trimN_pos (D : Nat → UInt8) (h0 : 49 ≤ (D 0).toNat) : ∀ n, 0 < n → 0 < trimN D n
  | 0, h => absurd h (by omega)
  | n + 1, _ => by
    rw [trimN]
    by_cases h : D n = 48
    · rw [if_pos h]
      refine trimN_pos D h0 n ?_
      rcases Nat.eq_zero_or_pos n with e | e
      · subst e
        rw [h] at h0
        simp at h0
      · exact e
    · rw [if_neg h]
      omega
theorem trimD_good {s : Dec} (hs : Good s) : Good (trimD s) ∧ (trimD s).dp = s.dp := by
  have hp := trimN_pos s.d hs.lead s.nd hs.pos
  refine ⟨⟨trimD_digits hs.dig, hp, hs.lead⟩, ?_⟩
  unfold trimD
  simp only
  rw [if_neg (by omega)]

theorem leftD_good {s : Dec} (hs : Good s) {k : Nat} (k1 : 1 ≤ k) (k2 : k ≤ 60) : Good (leftD s k) ∧ (leftD s k).dp = s.dp + leftDelta s k := by
  obtain ⟨b1, b2, b3⟩ := left_bounds hs k1 k2
  have i1 := ls1_inv hs b2 s.nd s.d s.tr 0 (LInv.start s hs k _)
  have i2 := ls2_inv (M := min (s.nd + leftDelta s k) 800) (by omega) (leftDelta s k) _ (ls1 k (leftDelta s k) s.nd s.d s.tr 0).2.1 _ (i1.fin b2 b3)
  have hp := hs.pos
  unfold leftD
  exact trimD_good ⟨⟨by simp only; omega, fun i hi => i2.1 i hi⟩, by simp only; omega, i2.2⟩
end Go.Proofs.YtodihpaabkplhaaGreatDoor
