/- The classes of characters: letters, blanks, digits, signs of numbers; capitals. -/
import Derived.Test.YtodihpaabkplhaaGreatDoorTok
import Derived.Test.YtodihpaabkplhaaGreatDoorUni
import Derived.Lib.Hide
namespace Go.Proofs.YtodihpaabkplhaaGreatDoor
open Go.RowKit

instance (c : Nat) : Decidable (letN c) := by unfold letN; infer_instance
instance (c : Nat) : Decidable (blankN c) := by unfold blankN; infer_instance
instance (c : Nat) : Decidable (digN c) := by unfold digN; infer_instance
instance (c : Nat) : Decidable (numN c) := by unfold numN; infer_instance
instance (c : Nat) : Decidable (fstN c) := by unfold fstN; infer_instance

set_option maxRecDepth 100000 in
theorem letter_any (c : Nat) (w : World) (hc : c < 128) :
    Calls Tryz.prog 32 #[.int .i32 c] w fun e w' => e = .returned (.bool (decide (letN c))) ∧ w' = w := by
  have hi : (c : Int) < 65 ∨ (65 : Int) ≤ c ∧ (c : Int) < 91 ∨ (91 : Int) ≤ c ∧ (c : Int) < 97 ∨ (97 : Int) ≤ c ∧ (c : Int) < 123 ∨ (123 : Int) ≤ c := by omega
  rcases hi with h | ⟨h, h2⟩ | ⟨h, h2⟩ | ⟨h, h2⟩ | h
  all_goals (
    go_enter Tryz.func32, Tryz.ntmps32
    go_wp2
    go_ret
    refine ⟨retb ?_, rfl⟩
    rw [Bool.eq_iff_iff]
    simp only [decide_eq_true_eq, Bool.or_eq_true, Bool.false_eq_true, false_iff, true_iff]
    unfold letN
    omega)
set_option maxRecDepth 100000 in
theorem space_any (c : Nat) (w : World) (hc : c < 128) :
    Calls Tryz.prog 42 #[.int .i32 c] w fun e w' => e = .returned (.bool (decide (blankN c))) ∧ w' = w := by
  have hi : (c : Int) < 9 ∨ (9 : Int) ≤ c ∧ (c : Int) < 14 ∨ (14 : Int) ≤ c ∧ (c : Int) < 32 ∨ (32 : Int) ≤ c ∧ (c : Int) < 33 ∨ (33 : Int) ≤ c := by omega
  rcases hi with h | ⟨h, h2⟩ | ⟨h, h2⟩ | ⟨h, h2⟩ | h
  all_goals (
    go_enter Tryz.func42, Tryz.ntmps42
    go_wp2
    go_ret
    refine ⟨retb ?_, rfl⟩
    rw [Bool.eq_iff_iff]
    simp only [decide_eq_true_eq, beq_iff_eq, Bool.or_eq_true, true_iff]
    unfold blankN
    omega)
set_option maxRecDepth 100000 in
theorem digit_any (c : Nat) (w : World) (hc : c < 128) :
    Calls Tryz.prog 68 #[.int .i32 c] w fun e w' => e = .returned (.bool (decide (digN c))) ∧ w' = w := by
  have hi : (c : Int) < 48 ∨ (48 : Int) ≤ c ∧ (c : Int) < 58 ∨ (58 : Int) ≤ c := by omega
  rcases hi with h | ⟨h, h2⟩ | h
  all_goals (
    go_enter Tryz.func68, Tryz.ntmps68
    go_wp2
    go_ret
    refine ⟨retb ?_, rfl⟩
    rw [Bool.eq_iff_iff]
    simp only [decide_eq_true_eq, Bool.false_eq_true, false_iff]
    unfold digN
    omega)
set_option maxRecDepth 100000 in
theorem sBlank_any (c : Nat) (w : World) (hc : c < 128) :
    Calls Tryz.prog 10 #[.int .u8 c] w fun e w' => e = .returned (.bool (decide (blankN c))) ∧ w' = w := by
  have hi : (c : Int) < 9 ∨ (9 : Int) ≤ c ∧ (c : Int) < 14 ∨ (14 : Int) ≤ c ∧ (c : Int) < 32 ∨ (32 : Int) ≤ c ∧ (c : Int) < 33 ∨ (33 : Int) ≤ c := by omega
  rcases hi with h | ⟨h, h2⟩ | ⟨h, h2⟩ | ⟨h, h2⟩ | h
  all_goals (
    go_enter Tryz.func10, Tryz.ntmps10
    go_wp2
    go_ret
    refine ⟨retb ?_, rfl⟩
    rw [Bool.eq_iff_iff]
    simp only [decide_eq_true_eq, beq_iff_eq, Bool.or_eq_true, true_iff]
    unfold blankN
    omega)
set_option maxRecDepth 100000 in
theorem sLetter_any (c : Nat) (w : World) (hc : c < 128) :
    Calls Tryz.prog 11 #[.int .u8 c] w fun e w' => e = .returned (.bool (decide (letN c))) ∧ w' = w := by
  have hi : (c : Int) < 65 ∨ (65 : Int) ≤ c ∧ (c : Int) < 91 ∨ (91 : Int) ≤ c ∧ (c : Int) < 97 ∨ (97 : Int) ≤ c ∧ (c : Int) < 123 ∨ (123 : Int) ≤ c := by omega
  rcases hi with h | ⟨h, h2⟩ | ⟨h, h2⟩ | ⟨h, h2⟩ | h
  all_goals (
    go_enter Tryz.func11, Tryz.ntmps11
    go_wp2
    go_ret
    refine ⟨retb ?_, rfl⟩
    rw [Bool.eq_iff_iff]
    simp only [decide_eq_true_eq, Bool.or_eq_true, Bool.false_eq_true, false_iff, true_iff]
    unfold letN
    omega)
set_option maxRecDepth 100000 in
theorem upper_any (c : Nat) (w : World) (hc : c < 128) :
    Calls Tryz.prog 46 #[.int .i32 c] w fun e w' => e = .returned (.int .i32 (greatN c)) ∧ w' = w := by
  have hi : (c : Int) < 97 ∨ (97 : Int) ≤ c ∧ (c : Int) ≤ 122 ∨ (122 : Int) < c := by omega
  rcases hi with h | ⟨h, h2⟩ | h
  all_goals (
    go_enter Tryz.func46, Tryz.ntmps46
    go_wp2
    go_ret
    refine ⟨ret1 ?_, rfl⟩
    unfold greatN
    split <;> omega)
set_option maxRecDepth 100000 in
theorem sGreat_any (c : Nat) (w : World) (hc : c < 128) :
    Calls Tryz.prog 12 #[.int .u8 c] w fun e w' => e = .returned (.int .u8 (greatN c)) ∧ w' = w := by
  have hi : (c : Int) < 97 ∨ (97 : Int) ≤ c ∧ (c : Int) ≤ 122 ∨ (122 : Int) < c := by omega
  rcases hi with h | ⟨h, h2⟩ | h
  all_goals (
    go_enter Tryz.func12, Tryz.ntmps12
    go_wp2
    go_ret
    refine ⟨ret1 ?_, rfl⟩
    unfold greatN
    split <;> omega)
set_option maxRecDepth 100000 in
theorem num_any (c : Nat) (w : World) (hc : c < 128) :
    Calls Tryz.prog 49 #[.int .i32 c] w fun e w' => e = .returned (.bool (decide (numN c))) ∧ w' = w := by
  by_cases hs : c = 45 ∨ c = 46 ∨ c = 101 ∨ c = 69 ∨ c = 43
  · rcases hs with rfl | rfl | rfl | rfl | rfl
    all_goals (
      go_enter Tryz.func49, Tryz.ntmps49
      go_wp2
      go_ret
      exact ⟨rfl, rfl⟩)
  · have h1 : ((c : Int) == 45) = false := by rw [beq_eq_false_iff_ne]; omega
    have h2 : ((c : Int) == 46) = false := by rw [beq_eq_false_iff_ne]; omega
    have h3 : ((c : Int) == 101) = false := by rw [beq_eq_false_iff_ne]; omega
    have h4 : ((c : Int) == 69) = false := by rw [beq_eq_false_iff_ne]; omega
    have h5 : ((c : Int) == 43) = false := by rw [beq_eq_false_iff_ne]; omega
    have hd : decide (digN c) = decide (numN c) := by
      rw [Bool.eq_iff_iff]
      simp only [decide_eq_true_eq]
      unfold numN digN
      omega
    have HD := Lib.hid hd
    clear hd hs
    go_enter Tryz.func49, Tryz.ntmps49
    go_wp2_with fail
    refine (digit_any c _ hc).mono ?_
    rintro en wa ⟨rfl, rfl⟩
    go_wp2_with fail
    go_ret
    exact ⟨retb HD.out, rfl⟩
set_option maxRecDepth 100000 in
theorem first_any (c : Nat) (w : World) (hc : c < 128) (hl : ¬ letN c) :
    Calls Tryz.prog 34 #[.int .i32 c] w fun e w' => e = .returned (.bool (decide (fstN c))) ∧ w' = w := by
  by_cases hs : c = 43
  · subst hs
    go_enter Tryz.func34, Tryz.ntmps34
    go_wp2_with fail
    go_ret
    exact ⟨rfl, rfl⟩
  · unfold letN at hl
    have h3 : ((c : Int) == 101) = false := by rw [beq_eq_false_iff_ne]; omega
    have h4 : ((c : Int) == 69) = false := by rw [beq_eq_false_iff_ne]; omega
    have h5 : ((c : Int) == 43) = false := by rw [beq_eq_false_iff_ne]; omega
    have hd : decide (numN c) = decide (fstN c) := by
      rw [Bool.eq_iff_iff]
      simp only [decide_eq_true_eq]
      unfold numN fstN digN
      omega
    have HD := Lib.hid hd
    clear hd hs
    go_enter Tryz.func34, Tryz.ntmps34
    go_wp2_with fail
    refine (num_any c _ hc).mono ?_
    rintro en wa ⟨rfl, rfl⟩
    go_wp2_with fail
    go_ret
    exact ⟨retb HD.out, rfl⟩
end Go.Proofs.YtodihpaabkplhaaGreatDoor
