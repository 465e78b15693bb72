/- readFloat: what it reads, in plain words; lower. -/
import Derived.Test.YtodihpaabkplhaaGreatDoorPsp
namespace Go.Proofs.YtodihpaabkplhaaGreatDoor
open Go.RowKit

/-- What has been read. -/
structure RS where
  dot : Bool
  dig : Bool
  tr : Bool
  nd : Nat
  nm : Nat
  dp : Int
  m : Nat
def RS.init : RS := ⟨false, false, false, 0, 0, 0, 0⟩
def RS.step (s : RS) (c : Nat) : RS :=
  if c = 46 then { s with dot := true, dp := s.nd }
  else if c = 48 ∧ s.nd = 0 then { s with dig := true, dp := s.dp - 1 }
  else if s.nm < 19 then { s with dig := true, nd := s.nd + 1, nm := s.nm + 1, m := s.m * 10 + (c - 48) }
  else { s with dig := true, nd := s.nd + 1, tr := if c = 48 then s.tr else true }
def rsAt (S : ByteArray) (i : Nat) : Nat → RS
  | 0 => RS.init
  | j + 1 => (rsAt S i j).step (ch S (i + j))
/-- The reading stops. -/
def rStop (s : RS) (c : Nat) : Prop := ¬ digN c ∧ (c = 46 → s.dot = true)

theorem first_ex (P : Nat → Prop) : ∀ N : Nat, ∃ n, n ≤ N ∧ (∀ j, j < n → ¬ P j) ∧ (n = N ∨ P n)
  | 0 => ⟨0, Nat.le_refl _, fun j hj => by omega, Or.inl rfl⟩
  | N + 1 => by
    obtain ⟨n, h1, h2, h3⟩ := first_ex P N
    rcases h3 with h3 | h3
    · subst h3
      rcases Classical.em (P n) with h | h
      · exact ⟨n, by omega, h2, Or.inr h⟩
      · refine ⟨n + 1, Nat.le_refl _, fun j hj => ?_, Or.inl rfl⟩
        rcases Nat.lt_or_ge j n with h4 | h4
        · exact h2 j h4
        · have : j = n := by omega
          rw [this]; exact h
    · exact ⟨n, by omega, h2, Or.inr h3⟩

/-- Bounds of what has been read. -/
structure ROk (s : RS) (j : Nat) : Prop where
  nd : s.nd ≤ j
  nm : s.nm ≤ 19
  nmd : s.nm ≤ s.nd
  d0 : -(j : Int) ≤ s.dp
  d1 : s.dp ≤ j
  m : s.m < 10 ^ s.nm
theorem ROk.step {s : RS} {j c : Nat} (h : ROk s j) (hc : digN c ∨ c = 46) : ROk (s.step c) (j + 1) := by
  obtain ⟨h1, h2, h3, h4, h5, h6⟩ := h
  unfold RS.step
  split
  · exact ⟨by simp only; omega, h2, h3, by simp only; omega, by simp only; omega, h6⟩
  · split
    · exact ⟨by simp only; omega, h2, h3, by simp only; omega, by simp only; omega, h6⟩
    · split
      · refine ⟨by simp only; omega, by simp only; omega, by simp only; omega, by simp only; omega, by simp only; omega, ?_⟩
        simp only
        rw [Nat.pow_succ]
        unfold digN at hc
        omega
      · exact ⟨by simp only; omega, h2, by simp only; omega, by simp only; omega, by simp only; omega, h6⟩
theorem ROk.init : ROk RS.init 0 := ⟨by simp [RS.init], by simp [RS.init], by simp [RS.init], by simp [RS.init], by simp [RS.init], by simp [RS.init]⟩
theorem rsAt_ok (S : ByteArray) (i n : Nat) (h : ∀ j, j < n → ¬ rStop (rsAt S i j) (ch S (i + j))) : ∀ j, j ≤ n → ROk (rsAt S i j) j
  | 0, _ => ROk.init
  | j + 1, hj => by
    have hs := h j (by omega)
    refine (rsAt_ok S i n h j (by omega)).step ?_
    unfold rStop at hs
    rcases Classical.em (digN (ch S (i + j))) with h1 | h1
    · exact Or.inl h1
    · rcases Classical.em (ch S (i + j) = 46) with h2 | h2
      · exact Or.inr h2
      · exact absurd ⟨h1, fun h => absurd h h2⟩ hs
theorem ROk.m20 {s : RS} {j : Nat} (h : ROk s j) : s.m < 10000000000000000000 := by
  have h1 : 10 ^ s.nm ≤ 10 ^ 19 := Nat.pow_le_pow_right (by decide) h.nm
  have h2 := h.m
  omega
theorem ROk.m19 {s : RS} {j : Nat} (h : ROk s j) (hn : s.nm < 19) : s.m < 1000000000000000000 := by
  have h1 : 10 ^ s.nm ≤ 10 ^ 18 := Nat.pow_le_pow_right (by decide) (by omega)
  have h2 := h.m
  omega

/-- The exponent's digits from q on. -/
def eAt (S : ByteArray) (q : Nat) : Nat → Nat
  | 0 => 0
  | j + 1 => if eAt S q j < 10000 then eAt S q j * 10 + (ch S (q + j) - 48) else eAt S q j
theorem eAt_le (S : ByteArray) (q n : Nat) (h : ∀ j, j < n → digN (ch S (q + j))) : ∀ j, j ≤ n → eAt S q j ≤ 100008
  | 0, _ => Nat.zero_le _
  | j + 1, hj => by
    have h1 := eAt_le S q n h j (by omega)
    have h2 := h j (by omega)
    unfold digN at h2
    rw [eAt]
    split <;> omega

set_option maxHeartbeats 1000000 in
theorem lower_num (x : Nat) (w : World) (h : numN x) :
    Calls Tryz.prog 73 #[.int .u8 x] w fun e w' => e = .returned (.int .u8 ((if x = 69 then 101 else x : Nat) : Int)) ∧ w' = w := by
  have hb : bits .or .u8 (x : Int) 32 = ((if x = 69 then 101 else x : Nat) : Int) := by
    unfold numN digN at h
    have : x = 48 ∨ x = 49 ∨ x = 50 ∨ x = 51 ∨ x = 52 ∨ x = 53 ∨ x = 54 ∨ x = 55 ∨ x = 56 ∨ x = 57 ∨ x = 45 ∨ x = 46 ∨ x = 101 ∨ x = 69 ∨ x = 43 := by omega
    rcases this with e | e | e | e | e | e | e | e | e | e | e | e | e | e | e <;> subst e <;> decide
  obtain ⟨y, hy⟩ : ∃ y : Nat, (if x = 69 then 101 else x) = y := ⟨_, rfl⟩
  rw [hy] at hb ⊢
  have HB := Lib.hid hb
  clear hb h hy
  go_enter Tryz.func73, Tryz.ntmps73
  go_wp2
  go_ret
  exact ⟨by rw [HB.out]; rfl, rfl⟩
end Go.Proofs.YtodihpaabkplhaaGreatDoor
