/- decimal.set: what it lays, in plain words. -/
import Derived.Test.YtodihpaabkplhaaGreatDoorPrg
import Derived.Test.YtodihpaabkplhaaGreatDoorLsq
namespace Go.Proofs.YtodihpaabkplhaaGreatDoor
open Go.RowKit

/-- What has been read into the decimal. -/
structure DS where
  dot : Bool
  dig : Bool
  nd : Nat
  dp : Int
  tr : Bool
  d : Nat → UInt8
def DS.init : DS := ⟨false, false, 0, 0, false, fun _ => 0⟩
def DS.step (s : DS) (c : Nat) : DS :=
  if c = 46 then { s with dot := true, dp := s.nd }
  else if c = 48 ∧ s.nd = 0 then { s with dig := true, dp := s.dp - 1 }
  else if s.nd < 800 then { s with dig := true, nd := s.nd + 1, d := upd s.d s.nd (UInt8.ofNat c) }
  else { s with dig := true, tr := if c = 48 then s.tr else true }
def dsAt (S : ByteArray) (i : Nat) : Nat → DS
  | 0 => DS.init
  | j + 1 => (dsAt S i j).step (ch S (i + j))
def DS.dec (s : DS) (neg : Bool) : Dec := ⟨s.d, s.nd, s.dp, neg, s.tr⟩
def dStop (s : DS) (c : Nat) : Prop := ¬ digN c ∧ (c = 46 → s.dot = true)

structure DOk (s : DS) (j : Nat) : Prop where
  nd : s.nd ≤ 800
  ndj : s.nd ≤ j
  dgs : ∀ i, i < s.nd → 48 ≤ (s.d i).toNat ∧ (s.d i).toNat ≤ 57
  lead : 0 < s.nd → 49 ≤ (s.d 0).toNat
  d0 : -(j : Int) ≤ s.dp
  d1 : s.dp ≤ j
theorem toNat_ofNat (c : Nat) (h : c < 256) : (UInt8.ofNat c).toNat = c := by simp; omega
theorem DOk.step {s : DS} {j c : Nat} (h : DOk s j) (hc : digN c ∨ c = 46) : DOk (s.step c) (j + 1) := by
  obtain ⟨h1, h2, h3, h4, h5, h6⟩ := h
  unfold DS.step
  split
  · exact ⟨h1, by simp only; omega, h3, h4, by simp only; omega, by simp only; omega⟩
  · split
    · exact ⟨h1, by simp only; omega, h3, h4, by simp only; omega, by simp only; omega⟩
    · split
      · rename_i n46 n48 hlt
        have hd : digN c := by
          rcases hc with h | h
          · exact h
          · exact absurd h n46
        unfold digN at hd
        have e8 := toNat_ofNat c (by omega)
        refine ⟨by simp only; omega, by simp only; omega, ?_, ?_, by simp only; omega, by simp only; omega⟩
        · intro i hi
          simp only at hi ⊢
          unfold upd
          split
          · rw [e8]; omega
          · exact h3 i (by omega)
        · intro _
          simp only
          unfold upd
          split
          · rename_i e
            rw [e8]
            omega
          · exact h4 (by omega)
      · exact ⟨h1, by simp only; omega, h3, h4, by simp only; omega, by simp only; omega⟩
theorem DOk.init : DOk DS.init 0 := ⟨by simp [DS.init], by simp [DS.init], fun i hi => by simp [DS.init] at hi, fun h => by simp [DS.init] at h, by simp [DS.init], by simp [DS.init]⟩
theorem dsAt_ok (S : ByteArray) (i n : Nat) (h : ∀ j, j < n → ¬ dStop (dsAt S i j) (ch S (i + j))) : ∀ j, j ≤ n → DOk (dsAt S i j) j
  | 0, _ => DOk.init
  | j + 1, hj => by
    have hs := h j (by omega)
    refine (dsAt_ok S i n h j (by omega)).step ?_
    unfold dStop at hs
    rcases Classical.em (digN (ch S (i + j))) with h1 | h1
    · exact Or.inl h1
    · rcases Classical.em (ch S (i + j) = 46) with h2 | h2
      · exact Or.inr h2
      · exact absurd ⟨h1, fun h => absurd h h2⟩ hs

def DS.point (s : DS) : Int := if s.dot then s.dp else s.nd
def DS.at (s : DS) (neg : Bool) (dp : Int) : Dec := ⟨s.d, s.nd, dp, neg, s.tr⟩

/-- A decimal that set may lay. -/
def SetOk (D : Dec) : Prop := Digits D ∧ (0 < D.nd → 49 ≤ (D.d 0).toNat) ∧ -200000 ≤ D.dp ∧ D.dp ≤ 200000
def zeroDec : Dec := ⟨fun _ => 0, 0, 0, false, false⟩

/-- What set lays of a text that is a number, s being what the digits have told, p where they end. -/
inductive DRest (S : ByteArray) (neg : Bool) (s : DS) (p : Nat) : Dec → Prop
  | plain : s.dig = true → p = S.size → DRest S neg s p (s.at neg s.point)
  | exp : s.dig = true → p + 1 < S.size → isE (ch S p) → Span digN S (sgnI (ch S (p + 1)) (p + 1)) S.size → sgnI (ch S (p + 1)) (p + 1) < S.size →
      DRest S neg s p (s.at neg (s.point + (eAt S (sgnI (ch S (p + 1)) (p + 1)) (S.size - sgnI (ch S (p + 1)) (p + 1)) : Nat) * (if sgnB (ch S (p + 1)) then -1 else 1)))
theorem DRest.ok {S : ByteArray} {neg : Bool} {s : DS} {p j : Nat} {D : Dec} (h : DRest S neg s p D) (hs : DOk s j) (hj : j ≤ 2000) : SetOk D := by
  have hpt : -2000 ≤ s.point ∧ s.point ≤ 2000 := by
    unfold DS.point
    have := hs.nd
    have := hs.d0
    have := hs.d1
    have := hs.ndj
    split <;> omega
  have hok : ∀ dp : Int, -200000 ≤ dp → dp ≤ 200000 → SetOk (s.at neg dp) := fun dp h1 h2 => ⟨⟨hs.nd, hs.dgs⟩, hs.lead, h1, h2⟩
  cases h with
  | plain => exact hok _ (by omega) (by omega)
  | exp h1 h2 h3 h4 h5 =>
    have hE := eAt_le S (sgnI (ch S (p + 1)) (p + 1)) (S.size - sgnI (ch S (p + 1)) (p + 1)) (fun j hj => h4.all _ (by omega) (by omega)) _ (Nat.le_refl _)
    exact hok _ (by split <;> omega) (by split <;> omega)

theorem RS.step_dd (s : RS) (c : Nat) : (s.step c).dot = (if c = 46 then true else s.dot) ∧ (s.step c).dig = (if c = 46 then s.dig else true) := by
  unfold RS.step
  by_cases h : c = 46
  · simp [h]
  · simp only [h, if_false]
    split
    · exact ⟨rfl, rfl⟩
    · split <;> exact ⟨rfl, rfl⟩
theorem DS.step_dd (s : DS) (c : Nat) : (s.step c).dot = (if c = 46 then true else s.dot) ∧ (s.step c).dig = (if c = 46 then s.dig else true) := by
  unfold DS.step
  by_cases h : c = 46
  · simp [h]
  · simp only [h, if_false]
    split
    · exact ⟨rfl, rfl⟩
    · split <;> exact ⟨rfl, rfl⟩
theorem ds_rs (S : ByteArray) (i : Nat) : ∀ j, (dsAt S i j).dot = (rsAt S i j).dot ∧ (dsAt S i j).dig = (rsAt S i j).dig
  | 0 => ⟨rfl, rfl⟩
  | j + 1 => by
    obtain ⟨h1, h2⟩ := ds_rs S i j
    rw [dsAt, rsAt, (DS.step_dd _ _).1, (DS.step_dd _ _).2, (RS.step_dd _ _).1, (RS.step_dd _ _).2, h1, h2]
    exact ⟨rfl, rfl⟩
theorem rsAt_extract (S : ByteArray) (i e : Nat) (he : e ≤ S.size) : ∀ j, i + j ≤ e → rsAt (S.extract 0 e) i j = rsAt S i j
  | 0, _ => rfl
  | j + 1, h => by
    rw [rsAt, rsAt, rsAt_extract S i e he j (by omega), ch_extract S 0 e (i + j) he (by omega), Nat.zero_add]
theorem eAt_extract (S : ByteArray) (q e : Nat) (he : e ≤ S.size) : ∀ j, q + j ≤ e → eAt (S.extract 0 e) q j = eAt S q j
  | 0, _ => rfl
  | j + 1, h => by
    rw [eAt, eAt, eAt_extract S q e he j (by omega), ch_extract S 0 e (q + j) he (by omega), Nat.zero_add]
theorem ch_cut (S : ByteArray) (e i : Nat) (he : e ≤ S.size) (hi : i < e) : ch (S.extract 0 e) i = ch S i := by
  rw [ch_extract S 0 e i he (by omega), Nat.zero_add]
/-- A text that was read whole is one that set takes. -/
theorem set_takes (S : ByteArray) (i0 n : Nat) (neg : Bool) (r : RF) (_ : 0 < S.size) (hn : i0 + n ≤ S.size) (hi0 : sgnI (ch S 0) 0 = i0)
    (hgo : ∀ j, j < n → ¬ rStop (rsAt S i0 j) (ch S (i0 + j))) (hr : RRest S neg (rsAt S i0 n) (i0 + n) r) (hok : r.ok = true) :
    0 < r.i ∧ r.i ≤ S.size ∧ i0 + n ≤ r.i ∧ (∀ j, j < n → ¬ dStop (dsAt (S.extract 0 r.i) i0 j) (ch (S.extract 0 r.i) (i0 + j))) ∧
      ∃ D, DRest (S.extract 0 r.i) neg (dsAt (S.extract 0 r.i) i0 n) (i0 + n) D := by
  have hdig0 : (rsAt S i0 n).dig = true → 0 < n := by
    intro h
    rcases Nat.eq_zero_or_pos n with h1 | h1
    · rw [h1] at h
      exact absurd h (by simp [rsAt, RS.init])
    · exact h1
  have hgo2 : ∀ e, i0 + n ≤ e → e ≤ S.size → ∀ j, j < n → ¬ dStop (dsAt (S.extract 0 e) i0 j) (ch (S.extract 0 e) (i0 + j)) := by
    intro e h1 h2 j hj hs
    refine hgo j hj ?_
    unfold dStop at hs
    rw [ch_cut S e (i0 + j) h2 (by omega), (ds_rs _ _ _).1, rsAt_extract S i0 e h2 j (by omega)] at hs
    exact hs
  have hdd : ∀ e, i0 + n ≤ e → e ≤ S.size → (rsAt S i0 n).dig = true → (dsAt (S.extract 0 e) i0 n).dig = true := by
    intro e h1 h2 h3
    rw [(ds_rs _ _ _).2, rsAt_extract S i0 e h2 n h1]
    exact h3
  have hsz : ∀ e, e ≤ S.size → (S.extract 0 e).size = e := by
    intro e he
    rw [ByteArray.size_extract]
    omega
  cases hr with
  | nodig => cases hok
  | short => cases hok
  | bad => cases hok
  | plain h1 h2 =>
    have := hdig0 h1
    exact ⟨by simp only; omega, hn, Nat.le_refl _, hgo2 _ (Nat.le_refl _) hn, _, .plain (hdd _ (Nat.le_refl _) hn h1) (hsz _ hn).symm⟩
  | @exp e h1 h2 h3 h4 h5 =>
    have := hdig0 h1
    have hq := sgnI_le (ch S (i0 + n + 1)) (i0 + n + 1)
    have hez := h4.end_le
    simp only
    refine ⟨by omega, hez, by omega, hgo2 e (by omega) hez, _, .exp (hdd e (by omega) hez h1) (by rw [hsz e hez]; omega) (by rw [ch_cut S e _ hez (by omega)]; exact h3) ?_ ?_⟩
    · rw [ch_cut S e _ hez (by omega), hsz e hez]
      refine ⟨Nat.le_of_lt h5, by rw [hsz e hez]; omega, fun k k1 k2 => ?_, Or.inl (hsz e hez).symm⟩
      rw [ch_cut S e _ hez k2]
      exact h4.all k k1 k2
    · rw [ch_cut S e _ hez (by omega), hsz e hez]
      exact h5
end Go.Proofs.YtodihpaabkplhaaGreatDoor
