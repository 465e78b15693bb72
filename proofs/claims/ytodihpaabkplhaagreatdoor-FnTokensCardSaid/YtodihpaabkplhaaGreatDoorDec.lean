/- internal/strconv's decimal: its state as plain data, and how it lies in memory. -/
import Derived.Test.YtodihpaabkplhaaGreatDoorUni
import Derived.Test.YtodihpaabkplhaaGreatDoorCel
import Derived.Deep.QuietTactic
import Derived.BigQuiet
import Derived.Deep.LoopGhost
namespace Go.Proofs.YtodihpaabkplhaaGreatDoor
open Go.RowKit

structure Dec where
  d : Nat → UInt8
  nd : Nat
  dp : Int
  neg : Bool
  tr : Bool

def decC (s : Dec) (i : Nat) : Value :=
  if i < 800 then .int .u8 ((s.d i).toNat : Int) else if i = 800 then .int .i64 (s.nd : Int) else if i = 801 then .int .i64 s.dp else if i = 802 then .bool s.neg else .bool s.tr

/-- Block b holds the decimal s. -/
def DecAt (w : World) (b : Nat) (s : Dec) : Prop := Cells w b 121 804 (decC s)
def upd (d : Nat → UInt8) (i : Nat) (x : UInt8) (j : Nat) : UInt8 := if j = i then x else d j

theorem DecAt.dig {w : World} {b : Nat} {s : Dec} (h : DecAt w b s) {i : Nat} (hi : i < 800) : w.cell? ⟨b, i, none⟩ = some (.int .u8 ((s.d i).toNat : Int)) := by
  have := Cells.cell h (i := i) (by omega)
  rw [this]
  unfold decC
  rw [if_pos hi]
theorem DecAt.hnd {w : World} {b : Nat} {s : Dec} (h : DecAt w b s) : w.cell? ⟨b, 800, none⟩ = some (.int .i64 (s.nd : Int)) := by
  rw [Cells.cell h (i := 800) (by omega)]; rfl
theorem DecAt.hdp {w : World} {b : Nat} {s : Dec} (h : DecAt w b s) : w.cell? ⟨b, 801, none⟩ = some (.int .i64 s.dp) := by
  rw [Cells.cell h (i := 801) (by omega)]; rfl
theorem DecAt.hneg {w : World} {b : Nat} {s : Dec} (h : DecAt w b s) : w.cell? ⟨b, 802, none⟩ = some (.bool s.neg) := by
  rw [Cells.cell h (i := 802) (by omega)]; rfl
theorem DecAt.htr {w : World} {b : Nat} {s : Dec} (h : DecAt w b s) : w.cell? ⟨b, 803, none⟩ = some (.bool s.tr) := by
  rw [Cells.cell h (i := 803) (by omega)]; rfl
theorem DecAt.fz {w : World} {b : Nat} {s : Dec} (h : DecAt w b s) (i : Nat) : w.frozen? ⟨b, i, none⟩ = false := Cells.frozen h i
theorem DecAt.below {w w' : World} {b B : Nat} {s : Dec} (h : DecAt w b s) (hb : Below B w w') (hB : b < B) : DecAt w' b s := Cells.below h hb hB
theorem DecAt.blt {w : World} {b : Nat} {s : Dec} (h : DecAt w b s) : b < w.heap.size := Cells.lt h

theorem DecAt.setDig {w : World} {b : Nat} {s : Dec} (h : DecAt w b s) {i : Nat} (hi : i < 800) (x : UInt8) (v : Value) (hv : v = .int .u8 (x.toNat : Int)) : DecAt (w.setCell ⟨b, i, none⟩ v) b { s with d := upd s.d i x } := by
  refine (Cells.set h (i := i) (by omega) v).congr fun j hj => ?_
  subst hv
  simp only [decC, upd]
  by_cases e : j = i
  · subst e
    rw [if_pos rfl, if_pos hi, if_pos rfl]
  · rw [if_neg e, if_neg e]
theorem DecAt.setNd {w : World} {b : Nat} {s : Dec} (h : DecAt w b s) (n : Nat) (v : Value) (hv : v = .int .i64 (n : Int)) : DecAt (w.setCell ⟨b, 800, none⟩ v) b { s with nd := n } := by
  refine (Cells.set h (i := 800) (by omega) v).congr fun j hj => ?_
  subst hv
  simp only [decC]
  by_cases e : j = 800
  · subst e; rfl
  · rw [if_neg e, if_neg e, if_neg e]
theorem DecAt.setDp {w : World} {b : Nat} {s : Dec} (h : DecAt w b s) (n : Int) (v : Value) (hv : v = .int .i64 n) : DecAt (w.setCell ⟨b, 801, none⟩ v) b { s with dp := n } := by
  refine (Cells.set h (i := 801) (by omega) v).congr fun j hj => ?_
  subst hv
  simp only [decC]
  by_cases e : j = 801
  · subst e; rfl
  · rw [if_neg e, if_neg e, if_neg e]
theorem DecAt.setTr {w : World} {b : Nat} {s : Dec} (h : DecAt w b s) (n : Bool) (v : Value) (hv : v = .bool n) : DecAt (w.setCell ⟨b, 803, none⟩ v) b { s with tr := n } := by
  refine (Cells.set h (i := 803) (by omega) v).congr fun j hj => ?_
  subst hv
  simp only [decC]
  by_cases e : j = 803
  · subst e; rfl
  · by_cases h8 : j < 800
    · rw [if_neg e, if_pos h8, if_pos h8]
    · by_cases e0 : j = 800
      · subst e0; rfl
      · by_cases e1 : j = 801
        · subst e1; rfl
        · have : j = 802 := by omega
          subst this; rfl
theorem DecAt.setNeg {w : World} {b : Nat} {s : Dec} (h : DecAt w b s) (n : Bool) (v : Value) (hv : v = .bool n) : DecAt (w.setCell ⟨b, 802, none⟩ v) b { s with neg := n } := by
  refine (Cells.set h (i := 802) (by omega) v).congr fun j hj => ?_
  subst hv
  simp only [decC]
  by_cases e : j = 802
  · subst e; rfl
  · by_cases h8 : j < 800
    · rw [if_neg e, if_pos h8, if_pos h8]
    · by_cases e0 : j = 800
      · subst e0; rfl
      · by_cases e1 : j = 801
        · subst e1; rfl
        · have : j = 803 := by omega
          subst this; rfl
theorem DecAt.drewN {w : World} {b : Nat} {s : Dec} (h : DecAt w b s) (n : Nat) : DecAt (w.drewN n) b s := h
theorem DecAt.drew {w : World} {b : Nat} {s : Dec} (h : DecAt w b s) : DecAt w.drew b s := h

/-- At most 800 digits, each one a digit. -/
def Digits (s : Dec) : Prop := s.nd ≤ 800 ∧ ∀ i, i < s.nd → 48 ≤ (s.d i).toNat ∧ (s.d i).toNat ≤ 57

/-- trim. -/
def trimD (s : Dec) : Dec := { s with nd := trimN s.d s.nd, dp := if trimN s.d s.nd = 0 then 0 else s.dp }
theorem trimD_digits {s : Dec} (h : Digits s) : Digits (trimD s) := by
  have := trimN_le s.d s.nd
  exact ⟨Nat.le_trans this h.1, fun i hi => h.2 i (Nat.lt_of_lt_of_le hi this)⟩

set_option maxHeartbeats 2000000 in
theorem trim_any (b : Nat) (s : Dec) (w : World) (h : DecAt w b s) (hn : s.nd ≤ 800) :
    Calls Tryz.prog 99 #[.pointer (some ⟨b, 0, none⟩)] w fun e w' => e = .returned (.tuple #[]) ∧ DecAt w' b (trimD s) ∧ Below b w w' := by
  obtain ⟨d, nd, dp, neg, tr⟩ := s
  simp only at hn
  go_enter Tryz.func99, Tryz.ntmps99
  go_wp2_with fail
  go_loopg [2] nd (fun n _ wr => n ≤ nd ∧ DecAt wr b ⟨d, n, dp, neg, tr⟩ ∧ Hid (trimN d n = trimN d nd) ∧ Below b w wr)
  case atStart => exact ⟨Nat.le_refl _, h, rfl, Below.refl _ _⟩
  case round =>
    clear h
    obtain ⟨hk, hd, ht, hb⟩ := hrel
    have c0 := hd.hnd
    have c1 := hd.hdp
    have f0 := hd.fz 800
    have f1 := hd.fz 801
    simp only at c0 c1
    have ht0 : trimN d gk = trimN d nd := ht.out
    cases gk with
    | zero =>
      have hfin : trimD ⟨d, nd, dp, neg, tr⟩ = ⟨d, 0, 0, neg, tr⟩ := by
        unfold trimD
        simp only [← ht0, trimN, if_true]
      have HF := Lib.hid hfin
      clear hfin ht0 ht
      go_wp2
      go_quiet (fail)
      go_wp2
      go_end0
      exact ⟨rfl, by rw [HF.out]; exact hd.setDp 0 _ rfl, Below.drewN (hb.setCell (Nat.le_refl _) _) _⟩
    | succ k =>
      have cd := hd.dig (i := k) (by omega)
      simp only at cd
      by_cases h48 : d k = 48
      · have hx : ((d k).toNat : Int) = 48 := by rw [h48]; rfl
        rw [hx] at cd
        have ht1 : Hid (trimN d k = trimN d nd) := by
          rw [trimN, if_pos h48] at ht0
          exact ht0
        clear hx ht ht0 h48
        go_wp2
        go_quiet (fail)
        go_wp2
        go_roundg k
        case measure => omega
        case rel => exact ⟨by omega, hd.setNd k _ rfl, ht1, Below.drewN (hb.setCell (Nat.le_refl _) _) _⟩
      · have hx : (((d k).toNat : Int) == 48) = false := by
          rw [beq_eq_false_iff_ne]
          exact fun h => h48 ((u8_eq_toNat _ 48 (by decide)).2 h)
        have hfin : trimD ⟨d, nd, dp, neg, tr⟩ = ⟨d, k + 1, dp, neg, tr⟩ := by
          unfold trimD
          rw [trimN, if_neg h48] at ht0
          simp only [← ht0]
          rw [if_neg (by omega)]
        have HF := Lib.hid hfin
        clear hfin ht0 ht h48
        go_wp2
        go_quiet (fail)
        go_wp2
        go_end0
        exact ⟨rfl, by rw [HF.out]; exact hd, Below.drewN hb _⟩
end Go.Proofs.YtodihpaabkplhaaGreatDoor
