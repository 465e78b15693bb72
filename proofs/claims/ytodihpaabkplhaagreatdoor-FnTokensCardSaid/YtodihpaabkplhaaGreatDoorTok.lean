/- The tokens of a text, as a plain relation. -/
import Derived.Test.YtodihpaabkplhaaGreatDoorNum
namespace Go.Proofs.YtodihpaabkplhaaGreatDoor

/-- The byte at place i; 0 at the end. -/
def ch (S : ByteArray) (i : Nat) : Nat := if h : i < S.size then (S[i]'h).toNat else 0
def blankN (c : Nat) : Prop := c = 32 ∨ 9 ≤ c ∧ c ≤ 13
def letN (c : Nat) : Prop := 97 ≤ c ∧ c ≤ 122 ∨ 65 ≤ c ∧ c ≤ 90
def digN (c : Nat) : Prop := 48 ≤ c ∧ c ≤ 57
def numN (c : Nat) : Prop := digN c ∨ c = 45 ∨ c = 46 ∨ c = 101 ∨ c = 69 ∨ c = 43
def fstN (c : Nat) : Prop := digN c ∨ c = 45 ∨ c = 46
def signN (c : Nat) : Prop := c = 40 ∨ c = 41 ∨ c = 44
def greatN (c : Nat) : Nat := if 97 ≤ c ∧ c ≤ 122 then c - 32 else c
def greatB (c : Nat) : UInt8 := UInt8.ofNat (greatN c)

/-- The letters from i to e, as capitals. -/
def capsF (S : ByteArray) (i e : Nat) : List UInt8 := (List.range' i (e - i)).map fun k => greatB (ch S k)
theorem capsF_nil (S : ByteArray) (i : Nat) : capsF S i i = [] := by simp [capsF]
theorem capsF_succ (S : ByteArray) (i e : Nat) (h : i ≤ e) : capsF S i (e + 1) = capsF S i e ++ [greatB (ch S e)] := by
  unfold capsF
  rw [show e + 1 - i = (e - i) + 1 by omega, List.range'_concat, List.map_append]
  simp
  congr 2
  omega
theorem capsF_length (S : ByteArray) (i e : Nat) : (capsF S i e).length = e - i := by simp [capsF]

/-- A token: a sign, a name, EMPTY or a number. -/
structure Wd where
  sign : Nat
  kind : Nat
  lay : Nat
  empty : Bool
  num : Nat
  deriving DecidableEq

def baseN : List (List UInt8) := [[80, 79, 73, 78, 84], [76, 73, 78, 69, 83, 84, 82, 73, 78, 71], [80, 79, 76, 89, 71, 79, 78], [77, 85, 76, 84, 73, 80, 79, 73, 78, 84],
  [77, 85, 76, 84, 73, 76, 73, 78, 69, 83, 84, 82, 73, 78, 71], [77, 85, 76, 84, 73, 80, 79, 76, 89, 71, 79, 78], [71, 69, 79, 77, 69, 84, 82, 89, 67, 79, 76, 76, 69, 67, 84, 73, 79, 78]]
def emptyN : List UInt8 := [69, 77, 80, 84, 89]
def tagN : List (List UInt8) := [[], [], [90], [77], [90, 77]]
/-- The name of a kind (1 to 7) with a layout (0, 2, 3, 4). -/
def nameN (k l : Nat) : List UInt8 := baseN.getD (k - 1) [] ++ tagN.getD l []
def pairsN : List (Nat × Nat) := [1, 2, 3, 4, 5, 6, 7].flatMap fun k => [(k, 0), (k, 2), (k, 3), (k, 4)]
/-- spec.named. -/
def named (n : List UInt8) : Option Wd :=
  if n = emptyN then some ⟨0, 0, 0, true, 0⟩ else (pairsN.find? fun p => n == nameN p.1 p.2).map fun p => ⟨0, p.1, p.2, false, 0⟩
theorem named_empty : named emptyN = some ⟨0, 0, 0, true, 0⟩ := by decide +kernel
theorem named_pair : ∀ k : Fin 7, ∀ l : Fin 5, l.val ≠ 1 → named (nameN (k.val + 1) l.val) = some ⟨0, k.val + 1, l.val, false, 0⟩ := by decide +kernel
theorem named_none {n : List UInt8} (h0 : n ≠ emptyN) (h : ∀ k l, 1 ≤ k → k ≤ 7 → l ≤ 4 → l ≠ 1 → n ≠ nameN k l) : named n = none := by
  unfold named
  rw [if_neg h0]
  have : (pairsN.find? fun p => n == nameN p.1 p.2) = none := by
    rw [List.find?_eq_none]
    intro p hp
    have hq : ∀ p ∈ pairsN, 1 ≤ p.1 ∧ p.1 ≤ 7 ∧ p.2 ≤ 4 ∧ p.2 ≠ 1 := by decide +kernel
    obtain ⟨h1, h2, h3, h4⟩ := hq p hp
    have := h p.1 p.2 h1 h2 h3 h4
    simpa using this
  rw [this]
  rfl
/-- The number of a token in the grammar. -/
def codeW (w : Wd) : Int :=
  if w.sign = 35 then 57375 else if w.sign ≠ 0 then w.sign else if w.empty then 57374
  else 57346 + 4 * ((w.kind : Int) - 1) + (if w.lay = 3 then 1 else if w.lay = 2 then 2 else if w.lay = 4 then 3 else 0)

/-- The name with Z, then M, if they stand at k; and where it ends. -/
def zEnd (S : ByteArray) (k : Nat) : Nat := if greatN (ch S k) = 90 then k + 1 else k
def mEnd (S : ByteArray) (k : Nat) : Nat := if greatN (ch S (zEnd S k)) = 77 then zEnd S k + 1 else zEnd S k
def zName (S : ByteArray) (k : Nat) (n : List UInt8) : List UInt8 := if greatN (ch S k) = 90 then n ++ [90] else n
def mName (S : ByteArray) (k : Nat) (n : List UInt8) : List UInt8 := if greatN (ch S (zEnd S k)) = 77 then zName S k n ++ [77] else zName S k n
theorem zEnd_le (S : ByteArray) (k : Nat) (h : k ≤ S.size) : zEnd S k ≤ S.size := by
  unfold zEnd
  split
  · rename_i e
    rcases Nat.lt_or_ge k S.size with h1 | h1
    · exact h1
    · unfold ch at e
      rw [dif_neg (by omega)] at e
      exact absurd e (by decide)
  · exact h
theorem mEnd_le (S : ByteArray) (k : Nat) (h : k ≤ S.size) : mEnd S k ≤ S.size := by
  have h0 := zEnd_le S k h
  unfold mEnd
  split
  · rename_i e
    rcases Nat.lt_or_ge (zEnd S k) S.size with h1 | h1
    · exact h1
    · unfold ch at e
      rw [dif_neg (by omega)] at e
      exact absurd e (by decide)
  · exact h0
theorem mEnd_ge (S : ByteArray) (k : Nat) : k ≤ mEnd S k := by
  unfold mEnd zEnd
  split <;> split <;> omega

/-- From i on, up to e, P holds; not at e. -/
structure Span (P : Nat → Prop) (S : ByteArray) (i e : Nat) : Prop where
  le : i ≤ e
  end_le : e ≤ S.size
  all : ∀ k, i ≤ k → k < e → P (ch S k)
  stop : e = S.size ∨ ¬ P (ch S e)
theorem span_ex (P : Nat → Prop) (S : ByteArray) (i : Nat) (h : i ≤ S.size) : ∃ e, Span P S i e := by
  obtain ⟨n, hn⟩ : ∃ n, S.size - i = n := ⟨_, rfl⟩
  induction n generalizing i with
  | zero => exact ⟨i, Nat.le_refl _, h, fun k h1 h2 => by omega, Or.inl (by omega)⟩
  | succ n ih =>
    rcases Classical.em (P (ch S i)) with hp | hp
    · obtain ⟨e, h1, h2, h3, h4⟩ := ih (i + 1) (by omega) (by omega)
      refine ⟨e, by omega, h2, fun k k1 k2 => ?_, h4⟩
      rcases Nat.lt_or_ge i k with hk | hk
      · exact h3 k hk k2
      · have : k = i := by omega
        rw [this]; exact hp
    · exact ⟨i, Nat.le_refl _, h, fun k h1 h2 => by omega, Or.inr hp⟩
theorem Span.lt {P : Nat → Prop} {S : ByteArray} {i e : Nat} (h : Span P S i e) (hi : i < S.size) (hp : P (ch S i)) : i < e := by
  rcases Nat.lt_or_ge i e with h1 | h1
  · exact h1
  · have : e = i := by have := h.le; omega
    subst this
    rcases h.stop with h2 | h2
    · omega
    · exact absurd hp h2

inductive Run (pf : ByteArray → Option Nat) (S : ByteArray) : Nat → Option (List Wd) → Prop
  | done {i : Nat} : i = S.size → Run pf S i (some [])
  | blank {i : Nat} {r : Option (List Wd)} : i < S.size → blankN (ch S i) → Run pf S (i + 1) r → Run pf S i r
  | sign {i : Nat} {r : Option (List Wd)} : i < S.size → signN (ch S i) → Run pf S (i + 1) r → Run pf S i (r.map fun l => ⟨ch S i, 0, 0, false, 0⟩ :: l)
  | empty {i e : Nat} {r : Option (List Wd)} : i < S.size → letN (ch S i) → Span letN S i e → capsF S i e = emptyN → Run pf S e r → Run pf S i (r.map fun l => ⟨0, 0, 0, true, 0⟩ :: l)
  | name {i e k : Nat} {d : Wd} {r : Option (List Wd)} : i < S.size → letN (ch S i) → Span letN S i e → capsF S i e ≠ emptyN → Span blankN S e k → named (mName S k (capsF S i e)) = some d →
      Run pf S (mEnd S k) r → Run pf S i (r.map fun l => d :: l)
  | nameBad {i e k : Nat} : i < S.size → letN (ch S i) → Span letN S i e → capsF S i e ≠ emptyN → Span blankN S e k → named (mName S k (capsF S i e)) = none → Run pf S i none
  | num {i e x : Nat} {r : Option (List Wd)} : i < S.size → fstN (ch S i) → Span numN S i e → pf (S.extract i e) = some x → Run pf S e r → Run pf S i (r.map fun l => ⟨35, 0, 0, false, x⟩ :: l)
  | numBad {i e : Nat} : i < S.size → fstN (ch S i) → Span numN S i e → pf (S.extract i e) = none → Run pf S i none
  | bad {i : Nat} : i < S.size → ¬ blankN (ch S i) → ¬ signN (ch S i) → ¬ letN (ch S i) → ¬ fstN (ch S i) → Run pf S i none

theorem fst_num {c : Nat} (h : fstN c) : numN c := by
  unfold fstN digN at h
  unfold numN digN
  omega

theorem run_ex (pf : ByteArray → Option Nat) (S : ByteArray) : ∀ n i : Nat, S.size - i = n → i ≤ S.size → ∃ r, Run pf S i r := by
  intro n
  induction n using Nat.strongRecOn with
  | _ n ih =>
    intro i hn hi
    rcases Nat.lt_or_ge i S.size with h | h
    rotate_left
    · exact ⟨_, .done (by omega)⟩
    rcases Classical.em (blankN (ch S i)) with hb | hb
    · obtain ⟨r, hr⟩ := ih (S.size - (i + 1)) (by omega) (i + 1) rfl (by omega)
      exact ⟨_, .blank h hb hr⟩
    rcases Classical.em (signN (ch S i)) with hs | hs
    · obtain ⟨r, hr⟩ := ih (S.size - (i + 1)) (by omega) (i + 1) rfl (by omega)
      exact ⟨_, .sign h hs hr⟩
    rcases Classical.em (letN (ch S i)) with hl | hl
    · obtain ⟨e, he⟩ := span_ex letN S i hi
      have hie := he.lt h hl
      have hee := he.end_le
      rcases Classical.em (capsF S i e = emptyN) with hE | hE
      · obtain ⟨r, hr⟩ := ih (S.size - e) (by omega) e rfl hee
        exact ⟨_, .empty h hl he hE hr⟩
      · obtain ⟨k, hk⟩ := span_ex blankN S e hee
        have h1 := hk.le
        have h2 := mEnd_ge S k
        have h3 := mEnd_le S k hk.end_le
        cases hd : named (mName S k (capsF S i e)) with
        | none => exact ⟨_, .nameBad h hl he hE hk hd⟩
        | some d =>
          obtain ⟨r, hr⟩ := ih (S.size - mEnd S k) (by omega) _ rfl h3
          exact ⟨_, .name h hl he hE hk hd hr⟩
    rcases Classical.em (fstN (ch S i)) with hf | hf
    · obtain ⟨e, he⟩ := span_ex numN S i hi
      have hie := he.lt h (fst_num hf)
      have hee := he.end_le
      cases hd : pf (S.extract i e) with
      | none => exact ⟨_, .numBad h hf he hd⟩
      | some x =>
        obtain ⟨r, hr⟩ := ih (S.size - e) (by omega) e rfl hee
        exact ⟨_, .num h hf he hd hr⟩
    · exact ⟨_, .bad h hb hs hl hf⟩

/-- Blanks ahead are passed over. -/
theorem Run.skip {pf : ByteArray → Option Nat} {S : ByteArray} {i k : Nat} {r : Option (List Wd)} (h : Run pf S i r) (hk : Span blankN S i k) : Run pf S k r := by
  obtain ⟨n, hn⟩ : ∃ n, k - i = n := ⟨_, rfl⟩
  induction n generalizing i with
  | zero =>
    have : k = i := by have := hk.le; omega
    rw [this]; exact h
  | succ n ih =>
    have hb := hk.all i (Nat.le_refl _) (by omega)
    have hz := hk.end_le
    have hk' : Span blankN S (i + 1) k := ⟨by omega, hz, fun j h1 h2 => hk.all j (by omega) h2, hk.stop⟩
    have hlet : ¬ letN (ch S i) := by unfold letN; unfold blankN at hb; omega
    have hsg : ¬ signN (ch S i) := by unfold signN; unfold blankN at hb; omega
    have hfs : ¬ fstN (ch S i) := by unfold fstN digN; unfold blankN at hb; omega
    cases h with
    | done e => omega
    | blank h1 h2 h3 => exact ih h3 hk' (by omega)
    | sign h1 h2 => exact absurd h2 hsg
    | empty h1 h2 => exact absurd h2 hlet
    | name h1 h2 => exact absurd h2 hlet
    | nameBad h1 h2 => exact absurd h2 hlet
    | num h1 h2 => exact absurd h2 hfs
    | numBad h1 h2 => exact absurd h2 hfs
    | bad h1 h2 => exact absurd hb h2
end Go.Proofs.YtodihpaabkplhaaGreatDoor
