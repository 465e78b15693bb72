/- Good data of places in a row: ends, spec.Good, gGood. -/
import Derived.Test.YtodihpaabkplhaaDoorGeo
namespace Go.Proofs.YtodihpaabkplhaaDoor
open Go.RowKit

/-- Where part i begins: at the end of the one ahead. -/
def fromE (st : Nat) (e : Nat → Nat) (i : Nat) : Nat := if i = 0 then st else e (i - 1)
theorem fromE_zero (st : Nat) (e : Nat → Nat) : fromE st e 0 = st := rfl
theorem fromE_succ (st : Nat) (e : Nat → Nat) (i : Nat) : fromE st e (i + 1) = e i := by unfold fromE; simp
/-- Ends that ascend by whole places. -/
def EndsUp (s st : Nat) (e : Nat → Nat) (k : Nat) : Prop := ∀ i, i < k → fromE st e i ≤ e i ∧ (e i - fromE st e i) % s = 0
theorem EndsUp.le {s st : Nat} {e : Nat → Nat} {k : Nat} (h : EndsUp s st e k) : ∀ i j, i ≤ j → j ≤ k → fromE st e i ≤ fromE st e j
  | i, 0, h1, _ => by rw [show i = 0 by omega]; exact Nat.le_refl _
  | i, j + 1, h1, h2 => by
    rcases Nat.lt_or_ge i (j + 1) with hl | hl
    · have := h.le i j (by omega) (by omega)
      have h3 := (h j (by omega)).1
      rw [fromE_succ]
      omega
    · rw [show i = j + 1 by omega]; exact Nat.le_refl _
theorem EndsUp.st_le {s st : Nat} {e : Nat → Nat} {k : Nat} (h : EndsUp s st e k) (j : Nat) (hj : j ≤ k) : st ≤ fromE st e j := by
  have := h.le 0 j (by omega) hj
  rwa [fromE_zero] at this


/-- What goodEnds tells. -/
def EndsGood (e : Nat → Int) (n s st : Nat) (single : Bool) (tt : Nat) (ok : Bool) : Prop :=
  ok = true → (∀ i, i < n → e i = ((e i).toNat : Int)) ∧ EndsUp s st (fun i => (e i).toNat) n ∧ tt = fromE st (fun i => (e i).toNat) n ∧ (single = true → ∀ i, i < n → (e i).toNat - fromE st (fun i => (e i).toNat) i ≤ s)
theorem EndsGood.zero (e : Nat → Int) (s st : Nat) (single : Bool) : EndsGood e 0 s st single st true :=
  fun _ => ⟨fun _ h => absurd h (by omega), fun _ h => absurd h (by omega), rfl, fun _ _ h => absurd h (by omega)⟩
theorem EndsGood.bad (e : Nat → Int) (n s st tt : Nat) (single : Bool) : EndsGood e n s st single tt false := fun h => by cases h
theorem EndsGood.succ {e : Nat → Int} {i s st f y : Nat} {single : Bool} (h : EndsGood e i s st single f true) (hx : e i = ((f + y : Nat) : Int)) (hm : y % s = 0) (hs : single = true → y ≤ s) : EndsGood e (i + 1) s st single (f + y) true := by
  obtain ⟨h1, h2, h3, h4⟩ := h rfl
  have he : (e i).toNat = f + y := by rw [hx]; rfl
  refine fun _ => ⟨fun j hj => ?_, fun j hj => ?_, ?_, fun hsi j hj => ?_⟩
  · rcases Nat.lt_or_ge j i with hl | hl
    · exact h1 j hl
    · rw [show j = i by omega, he, hx]
  · rcases Nat.lt_or_ge j i with hl | hl
    · exact h2 j hl
    · rw [show j = i by omega]
      show fromE st _ i ≤ (e i).toNat ∧ ((e i).toNat - fromE st _ i) % s = 0
      rw [← h3, he, Nat.add_sub_cancel_left]
      exact ⟨by omega, hm⟩
  · rw [fromE_succ, he]
  · rcases Nat.lt_or_ge j i with hl | hl
    · exact h4 hsi j hl
    · rw [show j = i by omega, ← h3, he, Nat.add_sub_cancel_left]
      exact hs hsi

set_option maxRecDepth 100000 in
set_option maxHeartbeats 1600000 in
theorem goodEnds_any (ao : Option Addr) (n cap st s : Nat) (single : Bool) (e : Nat → Int) (w : World) (he : IRow w ao n e) (hn : n ≤ 9223372036854775807) (hs1 : 1 ≤ s) (hs9 : s ≤ 9223372036854775807) (hst : st ≤ 9223372036854775807) :
    Calls Tryd.prog 52 #[.slice ao n cap, .int .i64 st, .int .i64 s, .bool single] w fun en w' => ∃ (tt : Nat) (ok : Bool), en = .returned (.tuple #[.int .i64 tt, .bool ok]) ∧ (tt ≤ 9223372036854775807 ∧ EndsGood e n s st single tt ok) ∧ w = w' := by
  have HE := Lib.hid he
  have HS := Lib.hid hst
  have HN := Lib.hid hn
  have hs9' : (s : Int) ≤ 9223372036854775807 := by omega
  have hs0 : ¬ s = 0 := by omega
  clear he hst hn hs9
  go_enter Tryd.func52, Tryd.ntmps52
  go_wp2_with fail
  go_loopg [14, 1] n (fun mm v14 v1 wr => ∃ i f : Nat, i + mm = n ∧ v14 = .int .i64 i ∧ v1 = .int .i64 f ∧ Hid (f ≤ 9223372036854775807) ∧ EndsGood e i s st single f true ∧ wr = w)
  case atStart => exact ⟨0, st, by omega, rfl, rfl, HS.out, EndsGood.zero _ _ _ _, rfl⟩
  case round =>
    obtain ⟨i, f, hi, rfl, rfl, hf, hg, rfl⟩ := hrel
    have HGd := Lib.hid hg
    clear hg
    cases gk with
    | zero =>
      have hin : i = n := by omega
      subst hin
      go_wp2_with fail
      go_ret2
      exact ⟨_, _, rfl, ⟨hf.out, HGd.out⟩, rfl⟩
    | succ mm =>
      obtain ⟨blk, off, rfl, hc⟩ := HE.out (by omega)
      obtain ⟨hc1, h64⟩ := hc i (by omega)
      have hlt : (i : Int) < n := by omega
      have hi1 : (i : Int) ≤ 9223372036854775806 := by have := HN.out; omega
      clear hc
      obtain ⟨x, hx⟩ : ∃ x, e i = x := ⟨_, rfl⟩
      rw [hx] at hc1 h64
      have HX := Lib.hid hx
      clear hx
      by_cases h1 : x < (f : Int)
      · clear h64
        go_wp2_with fail
        go_ret2
        exact ⟨_, _, rfl, ⟨hf.out, EndsGood.bad _ _ _ _ _ _⟩, rfl⟩
      · obtain ⟨y, hy⟩ : ∃ y : Nat, x = ((f + y : Nat) : Int) := ⟨(x - f).toNat, by omega⟩
        have hy1 : x - (f : Int) = (y : Int) := by omega
        have hfy : f + y ≤ 9223372036854775807 := by have := h64.2; omega
        have HFY := Lib.hid hfy
        have HX2 := Lib.hid (HX.out.trans hy)
        have hy0 : (y : Int) ≤ 9223372036854775807 := by omega
        have hy2 : ((f + y : Nat) : Int) = x := hy.symm
        have HY2 := Lib.hid hy2
        clear hfy h64 hy hy2
        have hfx : (f : Int) ≤ x := by omega
        clear h1
        by_cases h2 : y % s = 0
        · have h2i : (y : Int) % (s : Int) = 0 := by rw [← Int.natCast_emod, h2]; rfl
          have H2 := Lib.hid h2
          clear h2
          cases single with
          | false =>
            go_wp2_with fail
            go_roundg mm
            case measure => omega
            case rel => exact ⟨i + 1, f + y, by omega, rfl, by rw [HY2.out], HFY.out, HGd.out.succ HX2.out H2.out (fun h => by cases h), rfl⟩
          | true =>
            by_cases h3 : y ≤ s
            · have h3' : (y : Int) ≤ (s : Int) := by omega
              go_wp2_with fail
              go_roundg mm
              case measure => omega
              case rel => exact ⟨i + 1, f + y, by omega, rfl, by rw [HY2.out], HFY.out, HGd.out.succ HX2.out H2.out (fun _ => h3), rfl⟩
            · have h3' : (s : Int) < (y : Int) := by omega
              clear h3
              go_wp2_with fail
              go_ret2
              exact ⟨_, _, rfl, ⟨hf.out, EndsGood.bad _ _ _ _ _ _⟩, rfl⟩
        · have h2i : ((y : Int) % (s : Int) != 0) = true := by
            rw [bne_iff_ne, ← Int.natCast_emod]
            omega
          clear h2
          go_wp2_with fail
          go_ret2
          exact ⟨_, _, rfl, ⟨hf.out, EndsGood.bad _ _ _ _ _ _⟩, rfl⟩
end Go.Proofs.YtodihpaabkplhaaDoor
