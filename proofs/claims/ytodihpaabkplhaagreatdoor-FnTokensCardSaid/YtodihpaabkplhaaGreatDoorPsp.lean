/- special: a text of digits, points and signs is none. -/
import Derived.Test.YtodihpaabkplhaaGreatDoorProg
import Derived.Test.YtodihpaabkplhaaGreatDoorTok
import Derived.WalkSpells
import Derived.WalkLawsBesides
import Derived.Lib.Hide
import Derived.OwnWalk
import Derived.Deep.QuietTactic
import Derived.BigQuiet
import Derived.Deep.LoopGhost
namespace Go.Proofs.YtodihpaabkplhaaGreatDoor
open Go.RowKit

/-- Each byte is of a number. -/
def Numeric (S : ByteArray) : Prop := S.size ≤ 2000 ∧ ∀ i, i < S.size → numN (ch S i)

theorem ch_eq (S : ByteArray) (i : Nat) (h : i < S.size) : (S[i]'h).toNat = ch S i := by
  unfold ch
  rw [dif_pos h]

set_option maxHeartbeats 1000000 in
theorem prefix_zero (S : ByteArray) (w : World) (h : Numeric S) :
    Calls Tryz.prog 70 #[.string S, .string ⟨#[105, 110, 102, 105, 110, 105, 116, 121]⟩] w fun e w' => e = .returned (.int .i64 0) ∧ w' = w := by
  have hs := h.1
  rcases Nat.eq_zero_or_pos S.size with h0 | h0
  · have hz : (S.size : Int) = 0 := by omega
    go_enter Tryz.func70, Tryz.ntmps70
    go_wp2
    go_loopg [6] 0 (fun k v wr => v = .int .i64 0 ∧ wr = w)
    case atStart => exact ⟨rfl, rfl⟩
    case round =>
      obtain ⟨rfl, rfl⟩ := hrel
      go_wp2
      go_ret
      exact ⟨rfl, rfl⟩
  · have hn := h.2 0 h0
    have hx := ch_eq S 0 h0
    obtain ⟨x, hX⟩ : ∃ x, ch S 0 = x := ⟨_, rfl⟩
    rw [hX] at hn hx
    have hxi : ((S[0]'h0).toNat : Int) = x := by omega
    clear h hX hx
    obtain ⟨m, hm, m0⟩ : ∃ m : Int, min 8 (S.size : Int) = m ∧ 0 < m := ⟨_, rfl, by omega⟩
    go_enter Tryz.func70, Tryz.ntmps70
    unfold numN digN at hn
    have hc : (x : Int) = 69 ∨ (x : Int) = 101 ∨ (x : Int) < 65 ∧ ((x : Int) != 105) = true := by
      simp only [bne_iff_ne]
      omega
    have hI : (((⟨#[105, 110, 102, 105, 110, 105, 116, 121]⟩ : ByteArray)[0]'(by decide)).toNat : Int) = 105 := rfl
    clear hn hm
    go_wp2
    all_goals (
      go_loopg [6] 0 (fun k v wr => v = .int .i64 0 ∧ wr = w)
      case atStart => exact ⟨rfl, rfl⟩
      case round =>
        obtain ⟨rfl, rfl⟩ := hrel
        rcases hc with hc | hc | ⟨hc, hd⟩
        · rw [hc] at hxi
          go_wp2
          go_ret
          exact ⟨rfl, rfl⟩
        · rw [hc] at hxi
          go_wp2
          go_ret
          exact ⟨rfl, rfl⟩
        · go_wp2
          go_ret
          exact ⟨rfl, rfl⟩)

theorem ch_extract (S : ByteArray) (a b i : Nat) (hb : b ≤ S.size) (hi : i < b - a) : ch (S.extract a b) i = ch S (a + i) := by
  have h1 : i < (S.extract a b).size := by rw [ByteArray.size_extract]; omega
  unfold ch
  rw [dif_pos h1, dif_pos (by omega)]
  rw [ByteArray.getElem_extract]
theorem Numeric.extract {S : ByteArray} (h : Numeric S) (a b : Nat) (hb : b ≤ S.size) : Numeric (S.extract a b) := by
  have hsz : (S.extract a b).size = b - a := by rw [ByteArray.size_extract]; omega
  refine ⟨by have := h.1; omega, fun i hi => ?_⟩
  rw [ch_extract S a b i hb (by omega)]
  exact h.2 _ (by omega)

set_option maxHeartbeats 1000000 in
theorem special_any (S : ByteArray) (w : World) (h : Numeric S) :
    Calls Tryz.prog 51 #[.string S] w fun e w' => e = .returned (.tuple #[.float .f64 0, .int .i64 0, .bool false]) ∧ w' = w := by
  have hs := h.1
  rcases Nat.eq_zero_or_pos S.size with h0 | h0
  · have hz : (S.size : Int) = 0 := by omega
    go_enter Tryz.func51, Tryz.ntmps51
    go_wp2
    go_ret3
    exact ⟨rfl, rfl⟩
  · have hn := h.2 0 h0
    have hx := ch_eq S 0 h0
    have hp := fun w => prefix_zero (S.extract 1 S.size) w (h.extract 1 S.size (Nat.le_refl _))
    obtain ⟨x, hX⟩ : ∃ x, ch S 0 = x := ⟨_, rfl⟩
    rw [hX] at hn hx
    have hxi : ((S[0]'h0).toNat : Int) = x := by omega
    unfold numN digN at hn
    have hc : (x : Int) = 43 ∨ (x : Int) = 45 ∨ ((x : Int) == 43) = false ∧ ((x : Int) == 45) = false ∧ ((x : Int) == 105) = false ∧ ((x : Int) == 73) = false ∧ ((x : Int) == 110) = false ∧ ((x : Int) == 78) = false := by
      simp only [beq_eq_false_iff_ne]
      omega
    clear hn h hX hx
    rcases hc with hc | hc | ⟨h1, h2, h3, h4, h5, h6⟩
    · rw [hc] at hxi
      go_enter Tryz.func51, Tryz.ntmps51
      go_wp2_with (go_at_call 70; refine (hp _).mono ?_; rintro e w' ⟨rfl, rfl⟩)
      go_ret3
      exact ⟨rfl, rfl⟩
    · rw [hc] at hxi
      go_enter Tryz.func51, Tryz.ntmps51
      go_wp2_with (go_at_call 70; refine (hp _).mono ?_; rintro e w' ⟨rfl, rfl⟩)
      go_ret3
      exact ⟨rfl, rfl⟩
    · go_enter Tryz.func51, Tryz.ntmps51
      go_wp2
      go_ret3
      exact ⟨rfl, rfl⟩
end Go.Proofs.YtodihpaabkplhaaGreatDoor
