/- Floats that are no NaN: products and quotients with powers of ten are none either. -/
import Derived.Test.YtodihpaabkplhaaGreatDoorNum
import Derived.Laws.FloatArith
namespace Go.Proofs.YtodihpaabkplhaaGreatDoor

/-- Bits that are no NaN's. -/
def NN (x : Nat) : Prop := x % 9223372036854775808 ≤ 9218868437227405312
def Datum.fine : Ieee.Datum → Prop
  | .nan .. => False
  | _ => True

theorem read_fine {x : Nat} (h : NN x) : Datum.fine (Ieee.double.read x) := by
  have e1 : Ieee.double.signWeight = 9223372036854775808 := by decide +kernel
  have e2 : Ieee.double.infRung = 9218868437227405312 := by decide +kernel
  unfold NN at h
  unfold Ieee.Format.read
  simp only [e1, e2]
  split
  · trivial
  · split
    · trivial
    · split
      · trivial
      · omega
theorem word_nn (s : Bool) {r : Nat} (h : r ≤ 9218868437227405312) : NN (Ieee.double.word s r) := by
  have e1 : Ieee.double.signWeight = 9223372036854775808 := by decide +kernel
  unfold Ieee.Format.word NN
  rw [e1]
  split <;> omega
theorem write_nn {d : Ieee.Datum} (h : Datum.fine d) : NN (Ieee.double.write d) := by
  have e2 : Ieee.double.infRung = 9218868437227405312 := by decide +kernel
  cases d with
  | nan => exact absurd h (by simp [Datum.fine])
  | infinity s => exact word_nn s (by rw [e2]; omega)
  | number s m p =>
    show NN (Ieee.double.nearest s m p)
    unfold Ieee.Format.nearest
    split
    · exact word_nn s (by omega)
    · refine word_nn s ?_
      rw [e2]
      exact Nat.min_le_right _ _
theorem nearest_nn (n : Int) : NN (floatOfInt .f64 n) := write_nn (d := .number (n < 0) n.natAbs 0) trivial
theorem neg_nn {x : Nat} (h : NN x) : NN (Op.negFloat .f64 x) := by
  have e1 : Ieee.double.exponentBits + Ieee.double.fractionBits = 63 := by decide +kernel
  unfold NN at *
  show (x ^^^ 2 ^ (Ieee.double.exponentBits + Ieee.double.fractionBits)) % 9223372036854775808 ≤ _
  rw [e1]
  have e : (x ^^^ 2 ^ 63) % 2 ^ 63 = x % 2 ^ 63 := by rw [Nat.xor_mod_two_pow]; simp
  rw [show (9223372036854775808 : Nat) = 2 ^ 63 by decide +kernel] at h ⊢
  rw [e]
  exact h

/-- The bits of the powers of ten up to 22. -/
def tenF (i : Nat) : Nat := [4607182418800017408, 4621819117588971520, 4636737291354636288, 4652007308841189376, 4666723172467343360, 4681608360884174848, 4696837146684686336, 4711630319722168320, 4726483295884279808, 4741671816366391296, 4756540486875873280, 4771362005757984768, 4786511204640096256, 4801453603149578240, 4816244402031689728, 4831355200913801216, 4846369599423283200, 4861130398305394688, 4876203697187506176, 4891288408196988160, 4906019910204099648, 4921056587992461136, 4936209963552724370].getD i 0
theorem tenF_ok : ∀ i : Fin 23, (match Ieee.double.read (tenF i.val) with | .number _ m _ => decide (m ≠ 0) | _ => false) = true := by decide +kernel
theorem tenF_read (i : Nat) (h : i < 23) : ∃ s m p, Ieee.double.read (tenF i) = .number s m p ∧ m ≠ 0 := by
  have := tenF_ok ⟨i, h⟩
  simp only at this
  split at this
  · rename_i s m p e
    exact ⟨s, m, p, e, by simpa using this⟩
  · exact absurd this (by decide)

theorem mul_ten {x i : Nat} (h : NN x) (hi : i < 23) : ∃ r, floatBits .mul .f64 x (tenF i) = some r ∧ NN r := by
  obtain ⟨s, m, p, e, hm⟩ := tenF_read i hi
  have hf := read_fine h
  show ∃ r, Option.map Ieee.double.write ((Ieee.double.read x).product (Ieee.double.read (tenF i))) = some r ∧ NN r
  rw [e]
  cases hd : Ieee.double.read x with
  | nan => rw [hd] at hf; exact absurd hf (by simp [Datum.fine])
  | infinity t =>
    refine ⟨_, by simp only [Ieee.Datum.product]; rw [if_neg hm]; rfl, write_nn (d := .infinity _) trivial⟩
  | number t n j => exact ⟨_, rfl, write_nn (d := .number _ _ _) trivial⟩
theorem div_ten {x i : Nat} (h : NN x) (hi : i < 23) : ∃ r, floatBits .quo .f64 x (tenF i) = some r ∧ NN r := by
  obtain ⟨s, m, p, e, hm⟩ := tenF_read i hi
  have hf := read_fine h
  show ∃ r, Option.map Ieee.double.write ((Ieee.double.read x).quotient (Ieee.double.fractionBits + 2) (Ieee.double.read (tenF i))) = some r ∧ NN r
  rw [e]
  cases hd : Ieee.double.read x with
  | nan => rw [hd] at hf; exact absurd hf (by simp [Datum.fine])
  | infinity t => exact ⟨_, rfl, write_nn (d := .infinity _) trivial⟩
  | number t n j => exact ⟨_, by simp only [Ieee.Datum.quotient]; rw [if_neg hm]; rfl, write_nn (d := .number _ _ _) trivial⟩
theorem floatBits_lt {op : BinOp} {x y r : Nat} (h : floatBits op .f64 x y = some r) : r < 18446744073709551616 := by
  have := floatBits_wf h
  simpa [Lit.wf] using this
theorem nearest_lt64 (n : Int) : floatOfInt .f64 n < 18446744073709551616 := by
  have := floatOfInt_wf .f64 n
  simpa [Lit.wf] using this
theorem neg_lt64 {x : Nat} (h : x < 18446744073709551616) : Op.negFloat .f64 x < 18446744073709551616 := by
  have e1 : Ieee.double.exponentBits + Ieee.double.fractionBits = 63 := by decide +kernel
  show (x ^^^ 2 ^ (Ieee.double.exponentBits + Ieee.double.fractionBits)) < _
  rw [e1]
  rw [show (18446744073709551616 : Nat) = 2 ^ 64 by decide +kernel] at h ⊢
  exact Nat.xor_lt_two_pow h (by decide +kernel)
end Go.Proofs.YtodihpaabkplhaaGreatDoor
