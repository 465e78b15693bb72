/- The left shift of a decimal as a plain function: that its write index never falls below 0, and that digits stay digits. -/
import Derived.Test.YtodihpaabkplhaaGreatDoorDec
import Derived.Test.YtodihpaabkplhaaGreatDoorTab
namespace Go.Proofs.YtodihpaabkplhaaGreatDoor

/-- The digit at place i, as a number. -/
def dv (d : Nat → UInt8) (i : Nat) : Nat := (d i).toNat - 48
/-- The number that the first r digits tell. -/
def valD (d : Nat → UInt8) : Nat → Nat
  | 0 => 0
  | r + 1 => 10 * valD d r + dv d r

/-- The number of a list of digits. -/
def lv : List Nat → Nat
  | [] => 0
  | x :: l => x * 10 ^ l.length + lv l
theorem lv_lt : ∀ (l : List Nat), (∀ x ∈ l, x < 10) → lv l < 10 ^ l.length
  | [], _ => by simp [lv]
  | x :: l, h => by
    have h1 := lv_lt l (fun y hy => h y (List.mem_cons_of_mem _ hy))
    have h2 := h x (List.mem_cons_self ..)
    rw [lv, List.length_cons, Nat.pow_succ]
    have : x * 10 ^ l.length ≤ 9 * 10 ^ l.length := Nat.mul_le_mul_right _ (by omega)
    omega
theorem lv_snoc : ∀ (l : List Nat) (x : Nat), lv (l ++ [x]) = 10 * lv l + x
  | [], x => by simp [lv]
  | y :: l, x => by
    rw [List.cons_append, lv, lv, lv_snoc l x, List.length_append, List.length_singleton, Nat.pow_succ, ← Nat.mul_assoc]
    generalize y * 10 ^ l.length = Z at *
    omega
def lexLess : List Nat → List Nat → Bool
  | _, [] => false
  | [], _ :: _ => true
  | x :: xs, y :: ys => if x = y then lexLess xs ys else decide (x < y)

theorem lv_pos : ∀ (c : List Nat), (∃ x ∈ c, x ≠ 0) → 0 < lv c
  | [], h => by obtain ⟨x, hx, _⟩ := h; cases hx
  | y :: l, h => by
    rw [lv]
    obtain ⟨x, hx, hne⟩ := h
    rcases List.mem_cons.1 hx with rfl | hx
    · have : 0 < 10 ^ l.length := Nat.pow_pos (by decide)
      have := Nat.mul_pos (show 0 < x by omega) this
      omega
    · have := lv_pos l ⟨x, hx, hne⟩
      omega

/-- The last of a list is not 0 (of an empty one nothing is asked). -/
def lastOk (c : List Nat) : Bool := c.getLast?.all (· != 0)
theorem lastOk_tail {y : Nat} {ys : List Nat} (h : lastOk (y :: ys) = true) : lastOk ys = true := by
  unfold lastOk at *
  cases ys with
  | nil => rfl
  | cons z zs => simpa using h
theorem lastOk_ex {y : Nat} {ys : List Nat} (h : lastOk (y :: ys) = true) : ∃ x ∈ y :: ys, x ≠ 0 := by
  unfold lastOk at h
  have hne : (y :: ys) ≠ [] := by simp
  refine ⟨(y :: ys).getLast hne, List.getLast_mem hne, ?_⟩
  rw [List.getLast?_eq_some_getLast hne] at h
  simpa using h

theorem lex_spec : ∀ (b c : List Nat), (∀ x ∈ b, x < 10) → (∀ x ∈ c, x < 10) → lastOk c = true →
    (lexLess b c = true → lv b * 10 ^ c.length < lv c * 10 ^ b.length) ∧ (lexLess b c = false → lv c * 10 ^ b.length ≤ lv b * 10 ^ c.length)
  | b, [], _, _, _ => by simp [lexLess, lv]
  | [], y :: ys, _, _, h => by
    refine ⟨fun _ => ?_, fun h' => by simp [lexLess] at h'⟩
    have := lv_pos _ (lastOk_ex h)
    have e : lv ([] : List Nat) = 0 := rfl
    rw [e, Nat.zero_mul]
    exact Nat.mul_pos this (Nat.pow_pos (by decide))
  | x :: xs, y :: ys, hb, hc, hl => by
    have hx := hb x (List.mem_cons_self ..)
    have hy := hc y (List.mem_cons_self ..)
    have hbs : ∀ z ∈ xs, z < 10 := fun z hz => hb z (List.mem_cons_of_mem _ hz)
    have hcs : ∀ z ∈ ys, z < 10 := fun z hz => hc z (List.mem_cons_of_mem _ hz)
    obtain ⟨i1, i2⟩ := lex_spec xs ys hbs hcs (lastOk_tail hl)
    have px := lv_lt xs hbs
    have py := lv_lt ys hcs
    simp only [lexLess, lv, List.length_cons, Nat.pow_succ]
    generalize lv xs = A at *
    generalize lv ys = B at *
    generalize hX : 10 ^ xs.length = X at *
    generalize hY : 10 ^ ys.length = Y at *
    by_cases e : x = y
    · subst e
      rw [if_pos rfl]
      have e1 : (x * X + A) * (Y * 10) = x * X * Y * 10 + A * Y * 10 := by rw [Nat.add_mul]; simp only [Nat.mul_assoc]
      have e2 : (x * Y + B) * (X * 10) = x * X * Y * 10 + B * X * 10 := by rw [Nat.add_mul]; congr 1 <;> (simp only [Nat.mul_assoc, Nat.mul_comm, Nat.mul_left_comm])
      rw [e1, e2]
      exact ⟨fun h => by have := i1 h; omega, fun h => by have := i2 h; omega⟩
    · rw [if_neg e]
      constructor
      · intro h
        have hlt : x + 1 ≤ y := by simp at h; omega
        have h1 : x * X + A < y * X := by
          have := Nat.mul_le_mul_right X hlt
          rw [Nat.add_mul] at this
          omega
        have hYp : 0 < Y * 10 := by omega
        have h2 := Nat.mul_lt_mul_of_pos_right h1 hYp
        have h3 : y * X * (Y * 10) = y * Y * (X * 10) := by simp only [Nat.mul_assoc, Nat.mul_left_comm]
        rw [h3] at h2
        exact Nat.lt_of_lt_of_le h2 (Nat.mul_le_mul_right _ (by omega))
      · intro h
        have hge : y + 1 ≤ x := by simp at h; omega
        have h1 : y * Y + B ≤ x * Y := by
          have := Nat.mul_le_mul_right Y hge
          rw [Nat.add_mul] at this
          omega
        have h2 := Nat.mul_le_mul_right (X * 10) h1
        have h3 : x * Y * (X * 10) = x * X * (Y * 10) := by simp only [Nat.mul_assoc, Nat.mul_left_comm]
        rw [h3] at h2
        exact Nat.le_trans h2 (Nat.mul_le_mul_right _ (by omega))

/-- prefixIsLessThan: from place i on, against what is left of the text. -/
def prefLess (d : Nat → UInt8) (nd : Nat) : Nat → List UInt8 → Bool
  | _, [] => false
  | i, x :: t => if nd ≤ i then true else if d i = x then prefLess d nd (i + 1) t else decide ((d i).toNat < x.toNat)

def digL (d : Nat → UInt8) (i n : Nat) : List Nat := (List.range' i n).map (dv d)
theorem digL_zero (d : Nat → UInt8) (i : Nat) : digL d i 0 = [] := rfl
theorem digL_succ (d : Nat → UInt8) (i n : Nat) : digL d i (n + 1) = dv d i :: digL d (i + 1) n := rfl
theorem digL_length (d : Nat → UInt8) (i n : Nat) : (digL d i n).length = n := by simp [digL]
theorem lv_digL (d : Nat → UInt8) : ∀ n, lv (digL d 0 n) = valD d n
  | 0 => rfl
  | n + 1 => by
    have e : digL d 0 (n + 1) = digL d 0 n ++ [dv d n] := by
      unfold digL
      rw [List.range'_concat, List.map_append]
      simp
    rw [e, lv_snoc, lv_digL d n]
    rfl
theorem prefLess_lex (d : Nat → UInt8) (nd : Nat) (hd : ∀ i, i < nd → 48 ≤ (d i).toNat ∧ (d i).toNat ≤ 57) : ∀ (c : List UInt8) (i : Nat), i ≤ nd → (∀ x ∈ c, 48 ≤ x.toNat ∧ x.toNat ≤ 57) →
    prefLess d nd i c = lexLess (digL d i (nd - i)) (c.map fun x => x.toNat - 48)
  | [], i, _, _ => by simp [prefLess, lexLess]
  | x :: t, i, hi, hc => by
    have hx := hc x (List.mem_cons_self ..)
    rw [prefLess]
    by_cases h : nd ≤ i
    · rw [if_pos h, show nd - i = 0 by omega, digL_zero]
      rfl
    · rw [if_neg h]
      obtain ⟨m, hm⟩ : ∃ m, nd - i = m + 1 := ⟨nd - i - 1, by omega⟩
      rw [hm, digL_succ, List.map_cons, lexLess]
      have hdi := hd i (by omega)
      have ih := prefLess_lex d nd hd t (i + 1) (by omega) (fun y hy => hc y (List.mem_cons_of_mem _ hy))
      rw [show nd - (i + 1) = m by omega] at ih
      by_cases e : d i = x
      · rw [if_pos e, if_pos (by unfold dv; rw [e]), ih]
      · have e' : (d i).toNat ≠ x.toNat := fun h => e (UInt8.toNat_inj.1 h)
        rw [if_neg e, if_neg (by unfold dv; omega)]
        unfold dv
        congr 1
        exact propext ⟨fun h => by omega, fun h => by omega⟩

/-- The table's rows: 5^k, and how many digits 2^k has. -/
theorem cheat_ok : ∀ k : Fin 61, (cheatC k.val).all (fun x => 48 ≤ x.toNat && x.toNat ≤ 57) = true ∧ lastOk ((cheatC k.val).map fun x => x.toNat - 48) = true ∧ lv ((cheatC k.val).map fun x => x.toNat - 48) = (if k.val = 0 then 0 else 5 ^ k.val) ∧
    (1 ≤ k.val → cheatD k.val + (cheatC k.val).length = k.val + 1 ∧ 1 ≤ cheatD k.val ∧ cheatD k.val ≤ 19 ∧ (cheatC k.val).length ≤ k.val ∧ 10 ^ (cheatD k.val - 1).toNat ≤ 2 ^ k.val ∧ 2 ^ k.val < 10 ^ (cheatD k.val).toNat) ∧ (cheatC k.val).length ≤ 60 := by decide +kernel

end Go.Proofs.YtodihpaabkplhaaGreatDoor
