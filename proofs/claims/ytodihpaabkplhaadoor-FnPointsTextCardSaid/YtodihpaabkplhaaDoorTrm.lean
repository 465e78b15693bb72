/- Text: a number's zeros at the end left away. -/
import Derived.Test.YtodihpaabkplhaaDoorFtl
import Derived.Test.YtodihpaabkplhaaDoorBld
namespace Go.Proofs.YtodihpaabkplhaaDoor
open Go.RowKit

/-- How long S is without the bytes c at the end of its first k. -/
def tailS (S : ByteArray) (c : UInt8) : Nat → Nat
  | 0 => 0
  | k + 1 => if S.data[k]? = some c then tailS S c k else k + 1
theorem tailS_le (S : ByteArray) (c : UInt8) : ∀ k, tailS S c k ≤ k
  | 0 => Nat.le_refl _
  | k + 1 => by
    have := tailS_le S c k
    rw [tailS]
    split <;> omega
theorem get_data (S : ByteArray) (k : Nat) (h : k < S.size) : S.data[k]? = some (S[k]'h) := by
  have h' : k < S.data.size := h
  rw [Array.getElem?_eq_getElem h']
  rfl
/-- spec: zeros, then one point. -/
def numLen (S : ByteArray) : Nat :=
  if 0 < tailS S 48 S.size ∧ S.data[tailS S 48 S.size - 1]? = some 46 then tailS S 48 S.size - 1 else tailS S 48 S.size
def str (l : List UInt8) : ByteArray := ⟨l.toArray⟩
/-- The text of a number. -/
def numText (x : Nat) (digits : Int) : ByteArray :=
  if digits ≤ 0 then str (ftoaF x digits) else (str (ftoaF x digits)).extract 0 (numLen (str (ftoaF x digits)))

set_option maxRecDepth 100000 in
set_option maxHeartbeats 1600000 in
theorem writeNumber_any (cb co x : Nat) (digits : Int) (w : World) (T : Tabs cb co w) (hx : x < 18446744073709551616) (p0 : -1 ≤ digits) (p1 : digits ≤ 20) :
    Calls Tryd.prog 9 #[.float .f64 x, .int .i64 digits] w fun e w' => e = .returned (.string (numText x digits)) ∧ Below w.heap.size w w' := by
  have hmx : max (-1) digits = digits := by omega
  have hf := format_any cb co x digits w T hx p0 p1
  clear T
  change Calls _ _ _ _ fun e w' => e = .returned (.string (str (ftoaF x digits))) ∧ _ at hf
  have hnt : numText x digits = if digits ≤ 0 then str (ftoaF x digits) else (str (ftoaF x digits)).extract 0 (numLen (str (ftoaF x digits))) := rfl
  obtain ⟨S, hS⟩ : ∃ S, str (ftoaF x digits) = S := ⟨_, rfl⟩
  rw [hS] at hf hnt
  obtain ⟨R, hR⟩ : ∃ R, numText x digits = R := ⟨_, rfl⟩
  rw [hR] at hnt ⊢
  obtain ⟨B, hBe⟩ : ∃ B, w.heap.size = B := ⟨_, rfl⟩
  rw [hBe] at hf ⊢
  have HN := Lib.hid hnt
  have hsz : (S.size : Int) ≤ 20003 := by
    have h1 := ftoaF_length x digits p0 p1
    have h2 : (str (ftoaF x digits)).size = (ftoaF x digits).length := by show (ftoaF x digits).toArray.size = _; simp
    rw [hS] at h2
    omega
  clear hnt hR hS hBe
  go_enter Tryd.func9, Tryd.ntmps9
  go_wp2_with fail
  refine hf.mono ?_
  rintro e w1 ⟨rfl, hB⟩
  clear hf
  by_cases hd : digits ≤ 0
  · have hfin := HN.out
    rw [if_pos hd] at hfin
    have HF := Lib.hid hfin
    clear hfin HN
    go_wp2
    go_ret
    exact ⟨by rw [HF.out]; rfl, hB⟩
  · have hfin := HN.out
    rw [if_neg hd] at hfin
    have HF := Lib.hid hfin
    clear hfin HN
    go_wp2_with fail
    go_loopg [6] S.size (fun k v wr => v = .int .i64 (k : Int) ∧ k ≤ S.size ∧ Hid (tailS S 48 k = tailS S 48 S.size) ∧ wr = w1)
    case atStart => exact ⟨rfl, Nat.le_refl _, rfl, rfl⟩
    case round =>
      obtain ⟨rfl, hk, ht, rfl⟩ := hrel
      cases gk with
      | zero =>
        have h0 : numLen S = 0 := by unfold numLen; rw [← ht.out]; rfl
        have hz : S.extract 0 0 = ByteArray.empty := by simp
        rw [h0, hz] at HF
        clear hz
        have z0 : ((0 : Nat) : Int) = 0 := rfl
        rw [z0]
        clear z0 h0 ht
        go_wp2
        go_ret
        exact ⟨by rw [HF.out]; rfl, hB⟩
      | succ k =>
        have hk' : k < S.size := by omega
        have hg := get_data S k hk'
        have ht0 := ht.out
        rw [tailS] at ht0
        obtain ⟨x0, hx0⟩ : ∃ x0, S[k]'hk' = x0 := ⟨_, rfl⟩
        rw [hx0] at hg
        have k1 : ((k + 1 : Nat) : Int) - 1 = (k : Int) := by omega
        by_cases h48 : x0 = 48
        · have hx1 : ((S[k]'hk').toNat : Int) = 48 := by rw [hx0, h48]; rfl
          rw [if_pos (by rw [hg, h48])] at ht0
          have ht1 := Lib.hid ht0
          clear ht ht0 hg h48 hx0
          go_wp2
          go_roundg k
          case measure => omega
          case rel => exact ⟨by congr 1, by omega, ht1, rfl⟩
        · have hx1 : (((S[k]'hk').toNat : Int) == 48) = false := by
            rw [hx0, beq_eq_false_iff_ne]
            exact fun h => h48 ((u8_eq_toNat x0 48 (by decide)).2 h)
          rw [if_neg (by rw [hg]; exact fun h => h48 (Option.some.inj h))] at ht0
          by_cases h46 : x0 = 46
          · have hx2 : (((S[k]'hk').toNat : Int) == 46) = true := by rw [hx0, h46]; rfl
            have hn : numLen S = k := by
              unfold numLen
              rw [← ht0, if_pos ⟨by omega, by rw [Nat.add_sub_cancel, hg, h46]⟩, Nat.add_sub_cancel]
            rw [hn] at HF
            clear ht ht0 hg h48 hx0 hn h46
            go_wp2
            go_ret
            exact ⟨by rw [HF.out]; rfl, hB⟩
          · have hx2 : (((S[k]'hk').toNat : Int) == 46) = false := by
              rw [hx0, beq_eq_false_iff_ne]
              exact fun h => h46 ((u8_eq_toNat x0 46 (by decide)).2 h)
            have hn : numLen S = k + 1 := by
              unfold numLen
              rw [← ht0, if_neg]
              rintro ⟨_, h⟩
              rw [Nat.add_sub_cancel, hg] at h
              exact h46 (Option.some.inj h)
            rw [hn] at HF
            clear ht ht0 hg h48 hx0 hn h46
            go_wp2
            go_ret
            exact ⟨by rw [HF.out]; rfl, hB⟩

theorem tailS_lt (S : ByteArray) (c : UInt8) : ∀ k, tailS S c k < k → S.data[tailS S c k]? = some c
  | 0, h => absurd h (by omega)
  | k + 1, h => by
    rw [tailS] at h ⊢
    by_cases e : S.data[k]? = some c
    · rw [if_pos e] at h ⊢
      rcases Nat.lt_or_ge (tailS S c k) k with h' | h'
      · exact tailS_lt S c k h'
      · have := tailS_le S c k
        rw [show tailS S c k = k by omega]
        exact e
    · rw [if_neg e] at h
      omega

def impLen (S : ByteArray) : Nat := tailS S 46 (tailS S 48 S.size)
theorem impLen_eq (S : ByteArray) (h : ∀ i j : Nat, S.data[i]? = some 46 → S.data[j]? = some 46 → i = j) : impLen S = numLen S := by
  unfold impLen numLen
  generalize tailS S 48 S.size = n
  cases n with
  | zero => simp [tailS]
  | succ n =>
    rw [tailS, Nat.add_sub_cancel]
    by_cases e : S.data[n]? = some 46
    · rw [if_pos e, if_pos ⟨by omega, e⟩]
      rcases Nat.lt_or_ge (tailS S 46 n) n with h1 | h1
      · have := h _ _ (tailS_lt S 46 n h1) e
        omega
      · have := tailS_le S 46 n
        omega
    · rw [if_neg e, if_neg (fun h => e h.2)]

set_option maxRecDepth 100000 in
set_option maxHeartbeats 1600000 in
theorem trimRight_any (S : ByteArray) (c : UInt8) (w : World) (hs : S.size ≤ 1000000) :
    Calls Tryd.prog 62 #[.string S, .string ⟨#[c]⟩] w fun e w' => e = .returned (.string (S.extract 0 (tailS S c S.size))) ∧ ∃ n, w' = w.drewN n := by
  obtain ⟨R, hR⟩ : ∃ R, tailS S c S.size = R := ⟨_, rfl⟩
  obtain ⟨C, hC⟩ : ∃ C : ByteArray, ⟨#[c]⟩ = C := ⟨_, rfl⟩
  have hCs : C.size = 1 := by rw [← hC]; rfl
  have hC0 : C[0]'(by omega) = c := by subst hC; rfl
  rw [hR, hC]
  clear hC
  obtain ⟨Q, hQ⟩ : ∃ Q, S.extract 0 R = Q := ⟨_, rfl⟩
  rw [hQ]
  have HQ := Lib.hid hQ
  clear hQ
  go_enter Tryd.func62, Tryd.ntmps62
  go_wp2_with fail
  go_loopg [5] S.size (fun k v wr => v = .int .i64 (k : Int) ∧ k ≤ S.size ∧ Hid (tailS S c k = R) ∧ Hid (∃ n, wr = w.drewN n))
  case atStart => exact ⟨rfl, Nat.le_refl _, hR, 0, rfl⟩
  case round =>
    clear hR
    obtain ⟨rfl, hk, ht, hw⟩ := hrel
    cases gk with
    | zero =>
      have h0 : 0 = R := by rw [← ht.out]; rfl
      subst h0
      have hz : S.extract 0 0 = ByteArray.empty := by simp
      have hq := HQ.out
      rw [hz] at hq
      subst hq
      have z0 : ((0 : Nat) : Int) = 0 := rfl
      rw [z0]
      clear z0 ht hz HQ
      go_wp2
      go_ret
      exact ⟨rfl, hw.out⟩
    | succ k =>
      have hk' : k < S.size := by omega
      have hg := get_data S k hk'
      have ht0 := ht.out
      rw [tailS, hg] at ht0
      have k1 : ((k + 1 : Nat) : Int) - 1 = (k : Int) := by omega
      have hp : (0 : Int) < ((k + 1 : Nat) : Int) := by omega
      have k0 : (k : Int) ≤ 1000000 := by omega
      by_cases hc : S[k]'hk' = c
      · rw [if_pos (by rw [hc])] at ht0
        have ht1 := Lib.hid ht0
        have he : (((C[0]'(by omega)).toNat : Int) == ((S[k]'hk').toNat : Int)) = true := by rw [hC0, hc]; simp
        clear ht ht0 hg
        go_wp2_with fail
        go_loopg [6, 7] 1 (fun m f j wr => (m = 1 ∧ f = .bool false ∧ j = .int .i64 0 ∨ m = 0 ∧ f = .bool true ∧ j = .int .i64 1) ∧ Hid (∃ n, wr = w.drewN n))
        case atStart => exact ⟨Or.inl ⟨rfl, rfl, rfl⟩, hw⟩
        case round =>
          clear hw
          obtain ⟨hrel, hw⟩ := hrel
          clear hc hC0
          rcases hrel with ⟨rfl, rfl, rfl⟩ | ⟨rfl, rfl, rfl⟩
          · go_wp2
            go_quiet (fail)
            go_wp2
            go_roundg 0
            case measure => omega
            case rel =>
              obtain ⟨n0, rfl⟩ := hw.out
              exact ⟨Or.inr ⟨rfl, rfl, rfl⟩, _, World.drewN_drewN _ _ _⟩
          · go_wp2
            go_roundg k
            case measure => omega
            case rel => exact ⟨by congr 1, by omega, ht1, hw⟩
      · rw [if_neg (fun h => hc (Option.some.inj h))] at ht0
        subst ht0
        have he : (((C[0]'(by omega)).toNat : Int) == ((S[k]'hk').toNat : Int)) = false := by
          rw [hC0, beq_eq_false_iff_ne]
          exact fun h => hc (UInt8.toNat_inj.1 (by omega))
        clear hg hc hC0
        go_wp2_with fail
        go_loopg [6, 7] 1 (fun m f j wr => f = .bool false ∧ j = .int .i64 (1 - (m : Int)) ∧ m ≤ 1 ∧ Hid (∃ n, wr = w.drewN n))
        case atStart => exact ⟨rfl, rfl, by omega, hw⟩
        case round =>
          clear hw
          obtain ⟨rfl, rfl, hm, hw⟩ := hrel
          cases gk with
          | zero =>
            have z0 : (1 : Int) - ((0 : Nat) : Int) = 1 := rfl
            rw [z0]
            clear z0
            go_wp2
            go_ret
            exact ⟨by rw [HQ.out]; rfl, hw.out⟩
          | succ m =>
            have hm0 : m = 0 := by omega
            subst hm0
            have z0 : (1 : Int) - ((0 + 1 : Nat) : Int) = 0 := rfl
            rw [z0]
            clear z0
            go_wp2
            go_quiet (fail)
            go_wp2
            go_roundg 0
            case measure => omega
            case rel =>
              obtain ⟨n0, rfl⟩ := hw.out
              exact ⟨rfl, rfl, by omega, _, World.drewN_drewN _ _ _⟩
end Go.Proofs.YtodihpaabkplhaaDoor
