/- Texts of places in brackets: plain functions and their lengths. -/
import Derived.Test.YtodihpaabkplhaaDoorWco
import Derived.Test.YtodihpaabkplhaaDoorGef
namespace Go.Proofs.YtodihpaabkplhaaDoor
open Go.RowKit

/-- What stands ahead of part i. -/
def sepB (i : Nat) : List UInt8 := if i = 0 then [] else [44, 32]
theorem sepB_length (i : Nat) : (sepB i).length ≤ 2 := by unfold sepB; split <;> simp
theorem sepB_zero : sepB 0 = [] := rfl
theorem sepB_pos {i : Nat} (h : i ≠ 0) : sepB i = [44, 32] := if_neg h
/-- The first k parts with a comma and a blank between them. -/
def joinB (f : Nat → List UInt8) : Nat → List UInt8
  | 0 => []
  | i + 1 => joinB f i ++ sepB i ++ f i
theorem joinB_succ (f : Nat → List UInt8) (i : Nat) : joinB f (i + 1) = joinB f i ++ sepB i ++ f i := rfl
theorem joinB_congr {f g : Nat → List UInt8} : ∀ k, (∀ i, i < k → f i = g i) → joinB f k = joinB g k
  | 0, _ => rfl
  | k + 1, h => by rw [joinB, joinB, joinB_congr k (fun i hi => h i (by omega)), h k (by omega)]
/-- The same in brackets. -/
def brackB (f : Nat → List UInt8) (k : Nat) : List UInt8 := [40] ++ joinB f k ++ [41]
theorem brackB_length (f : Nat → List UInt8) (k : Nat) : (brackB f k).length = (joinB f k).length + 2 := by simp [brackB]
def emptyB : List UInt8 := [69, 77, 80, 84, 89]
theorem emptyB_length : emptyB.length = 5 := rfl

def placeB (xs : Nat → Nat) (d : Int) (s : Nat) (i : Nat) : List UInt8 := coordB (fun j => xs (i * s + j)) d s
/-- k places of s numbers. -/
def flatB (xs : Nat → Nat) (d : Int) (s k : Nat) : List UInt8 := brackB (placeB xs d s) k

theorem join_place_length (xs : Nat → Nat) (d : Int) (s : Nat) (p0 : -1 ≤ d) (p1 : d ≤ 20) : ∀ k, (joinB (placeB xs d s) k).length ≤ k * (s * 20004 + 2)
  | 0 => by simp [joinB]
  | k + 1 => by
    have h1 := join_place_length xs d s p0 p1 k
    have h2 := coordB_length (fun j => xs (k * s + j)) d p0 p1 s
    have h3 := sepB_length k
    rw [joinB, List.length_append, List.length_append, placeB, Nat.add_mul]
    omega
theorem flatB_length (xs : Nat → Nat) (d : Int) (s k n : Nat) (p0 : -1 ≤ d) (p1 : d ≤ 20) (hs : 1 ≤ s) (hn : n = k * s) : (flatB xs d s k).length ≤ n * 20006 + 2 := by
  have h := join_place_length xs d s p0 p1 k
  rw [flatB, brackB_length]
  have h1 : k * (s * 20004 + 2) = n * 20004 + k * 2 := by rw [Nat.mul_add, ← Nat.mul_assoc, ← hn]
  have h2 : k ≤ n := by rw [hn]; exact Nat.le_mul_of_pos_right k hs
  omega

/-- A point of a multi point. -/
def pointB (xs : Nat → Nat) (d : Int) (a b : Nat) : List UInt8 := if b ≤ a then emptyB else coordB (fun j => xs (a + j)) d (b - a)
def pointsB (xs : Nat → Nat) (d : Int) (st : Nat) (e : Nat → Nat) (k : Nat) : List UInt8 := brackB (fun i => pointB xs d (fromE st e i) (e i)) k
/-- A line of a row. -/
def lineB (xs : Nat → Nat) (d : Int) (s a b : Nat) : List UInt8 := if b ≤ a then emptyB else flatB (fun j => xs (a + j)) d s ((b - a) / s)
def linesB (xs : Nat → Nat) (d : Int) (s st : Nat) (e : Nat → Nat) (k : Nat) : List UInt8 := brackB (fun i => lineB xs d s (fromE st e i) (e i)) k

theorem pointB_length (xs : Nat → Nat) (d : Int) (a b : Nat) (p0 : -1 ≤ d) (p1 : d ≤ 20) : (pointB xs d a b).length ≤ (b - a) * 20006 + 7 := by
  unfold pointB
  split
  · rw [emptyB_length]; omega
  · refine Nat.le_trans (coordB_length (fun j => xs (a + j)) d p0 p1 (b - a)) ?_
    generalize b - a = y
    omega
theorem lineB_length (xs : Nat → Nat) (d : Int) (s a b : Nat) (p0 : -1 ≤ d) (p1 : d ≤ 20) (hs : 1 ≤ s) (hm : (b - a) % s = 0) : (lineB xs d s a b).length ≤ (b - a) * 20006 + 7 := by
  unfold lineB
  split
  · rw [emptyB_length]; omega
  · have hd : b - a = (b - a) / s * s := by
      have := Nat.div_add_mod (b - a) s
      rw [hm, Nat.add_zero, Nat.mul_comm] at this
      exact this.symm
    refine Nat.le_trans (flatB_length (fun j => xs (a + j)) d s ((b - a) / s) (b - a) p0 p1 hs hd) ?_
    generalize b - a = y
    omega
theorem join_parts_length {s st : Nat} {e : Nat → Nat} {K : Nat} (hE : EndsUp s st e K) (f : Nat → List UInt8) (hf : ∀ i, i < K → (f i).length ≤ (e i - fromE st e i) * 20006 + 7) :
    ∀ k, k ≤ K → (joinB f k).length ≤ (fromE st e k - st) * 20006 + k * 9
  | 0, _ => by simp [joinB]
  | k + 1, hk => by
    have h1 := join_parts_length hE f hf k (by omega)
    have h2 := hf k (by omega)
    have h3 := sepB_length k
    have h4 := (hE k (by omega)).1
    have h5 := hE.st_le k (by omega)
    rw [joinB, List.length_append, List.length_append, fromE_succ]
    omega
theorem pointsB_length (xs : Nat → Nat) (d : Int) (s st : Nat) (e : Nat → Nat) (k : Nat) (p0 : -1 ≤ d) (p1 : d ≤ 20) (hE : EndsUp s st e k) : (pointsB xs d st e k).length ≤ (fromE st e k - st) * 20006 + k * 9 + 2 := by
  have := join_parts_length hE (fun i => pointB xs d (fromE st e i) (e i)) (fun i _ => pointB_length xs d _ _ p0 p1) k (Nat.le_refl _)
  rw [pointsB, brackB_length]
  omega
theorem linesB_length (xs : Nat → Nat) (d : Int) (s st : Nat) (e : Nat → Nat) (k : Nat) (p0 : -1 ≤ d) (p1 : d ≤ 20) (hs : 1 ≤ s) (hE : EndsUp s st e k) : (linesB xs d s st e k).length ≤ (fromE st e k - st) * 20006 + k * 9 + 2 := by
  have := join_parts_length hE (fun i => lineB xs d s (fromE st e i) (e i)) (fun i hi => lineB_length xs d s _ _ p0 p1 hs (hE i hi).2) k (Nat.le_refl _)
  rw [linesB, brackB_length]
  omega

/-- Polygons. -/
def areaB (xs : Nat → Nat) (d : Int) (s : Nat) (m : Nat → Nat) (e : Nat → Nat → Nat) (i : Nat) : List UInt8 :=
  if m i = 0 then emptyB else linesB xs d s (fromA 0 m e i) (e i) (m i)
def areasB (xs : Nat → Nat) (d : Int) (s : Nat) (m : Nat → Nat) (e : Nat → Nat → Nat) (k : Nat) : List UInt8 := brackB (areaB xs d s m e) k
theorem AreasUp.le {s : Nat} {m : Nat → Nat} {e : Nat → Nat → Nat} {k : Nat} (h : AreasUp s m e k) : ∀ i j, i ≤ j → j ≤ k → fromA 0 m e i ≤ fromA 0 m e j
  | i, 0, h1, _ => by rw [show i = 0 by omega]; exact Nat.le_refl _
  | i, j + 1, h1, h2 => by
    rcases Nat.lt_or_ge i (j + 1) with hl | hl
    · have := h.le i j (by omega) (by omega)
      have h3 := (h j (by omega)).st_le (m j) (Nat.le_refl _)
      rw [show fromA 0 m e (j + 1) = fromE (fromA 0 m e j) (e j) (m j) from rfl]
      omega
    · rw [show i = j + 1 by omega]; exact Nat.le_refl _
theorem area_step (A B J L : Nat) (z y m k : Nat) (h1 : J ≤ z * 20006 + A * 9 + k * 7) (h3 : L ≤ 2) (h5 : z ≤ y) (h8 : B ≤ (y - z) * 20006 + m * 9 + 5) : J + L + B ≤ y * 20006 + (A + m) * 9 + (k + 1) * 7 := by omega
theorem areaB_length (xs : Nat → Nat) (d : Int) (s : Nat) (m : Nat → Nat) (e : Nat → Nat → Nat) (k : Nat) (p0 : -1 ≤ d) (p1 : d ≤ 20) (hs : 1 ≤ s) (hE : EndsUp s (fromA 0 m e k) (e k) (m k)) :
    (areaB xs d s m e k).length ≤ (fromE (fromA 0 m e k) (e k) (m k) - fromA 0 m e k) * 20006 + m k * 9 + 5 := by
  unfold areaB
  split
  · rw [emptyB_length]
    exact Nat.le_add_left _ _
  · refine Nat.le_trans (linesB_length xs d s (fromA 0 m e k) (e k) (m k) p0 p1 hs hE) ?_
    exact Nat.add_le_add_left (by decide) _
theorem join_areas_length (xs : Nat → Nat) (d : Int) (s : Nat) (m : Nat → Nat) (e : Nat → Nat → Nat) {K : Nat} (p0 : -1 ≤ d) (p1 : d ≤ 20) (hs : 1 ≤ s) (hE : AreasUp s m e K) (k : Nat) (hk : k ≤ K) :
    (joinB (areaB xs d s m e) k).length ≤ fromA 0 m e k * 20006 + sumM m k * 9 + k * 7 := by
  induction k with
  | zero => exact Nat.zero_le _
  | succ k ih =>
    rw [joinB, List.length_append, List.length_append]
    exact area_step _ _ _ _ _ _ _ _ (ih (by omega)) (sepB_length k) ((hE k (by omega)).st_le (m k) (Nat.le_refl _)) (areaB_length xs d s m e k p0 p1 hs (hE k (by omega)))
end Go.Proofs.YtodihpaabkplhaaDoor
