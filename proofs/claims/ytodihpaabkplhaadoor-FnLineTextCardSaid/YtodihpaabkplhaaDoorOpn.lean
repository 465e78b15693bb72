/- The laws' arguments opened: numbers in a row, ends, lists of ends. -/
import Derived.Test.YtodihpaabkplhaaDoorFlw
import Derived.Test.YtodihpaabkplhaaDoorLad
import Derived.Test.YtodihpaabkplhaaDoorWit
namespace Go.Proofs.YtodihpaabkplhaaDoor
open Go.ChangeShapes Go.WideShapes Go.ChangeAt Go.RowKit Go.Deep

theorem plain_addr (b off i : Nat) : (⟨b, off, none⟩ : Addr).add i = ⟨b, off + i, none⟩ := by
  unfold Addr.add
  split
  · rename_i h; rw [h, Nat.add_zero]
  · rfl

section
variable {H : Type} {enc : TypeId × Value → H} {W : World} {base : Nat} {sp : Nat → Bool} {held : Bool} {fuel : Nat} {x : DataW H × List MemPlace}

theorem trod_floats {v : Value} (h : DataW.trod enc Tryd.prog W base sp held fuel 22 [v] = some x) :
    ∃ (ao : Option Addr) (n cap : Nat) (xs : Nat → Nat), v = .slice ao n cap ∧ n ≤ cap ∧ cap ≤ maxLen ∧ FRowO W ao n xs := by
  rcases open_slice1 Tryd.underlying22 (by kernel_rfl) h with ⟨hc, _⟩ | ⟨a, len, cap, m, n, V, D, Pl, hc, _, hl, hm, hmm, hx, hel⟩
  · cases hc
    exact ⟨none, 0, 0, fun _ => 0, rfl, Nat.le_refl _, Nat.zero_le _, fun h => absurd h (by omega)⟩
  · cases hc
    have hnm : len ≤ m := by rw [hmm]; split <;> omega
    obtain ⟨b, off, spot⟩ := a
    rcases Nat.eq_zero_or_pos len with h0 | h0
    · subst h0
      exact ⟨_, 0, cap, fun _ => 0, rfl, hl, hm, fun h => absurd h (by omega)⟩
    have h1 := (hel 0 (by omega)).1
    have hsp : spot = none := by simpa [Addr.add] using World.cell?_spot h1
    subst hsp
    have each : ∀ i, i < len → ∃ y : Nat, W.cell? ⟨b, off + i, none⟩ = some (.float .f64 y) ∧ y < 18446744073709551616 := by
      intro i hi
      obtain ⟨e1, e2⟩ := hel i (by omega)
      rw [plain_addr] at e1
      obtain ⟨y, hV, hw⟩ := trod_float Tryd.underlying24 e2
      refine ⟨y, by rw [e1, hV], ?_⟩
      simpa [Lit.wf] using hw
    obtain ⟨xs, hxs⟩ := choose_lt each
    exact ⟨_, len, cap, xs, rfl, hl, hm, fun _ => ⟨b, off, rfl, hxs⟩⟩

theorem i64_wf {y : Int} (h : (Lit.int .i64 y).wf = true) : I64 y := by
  have hmin : IntKind.i64.min = -9223372036854775808 := by decide
  have hmax : IntKind.i64.max = 9223372036854775807 := by decide
  simp [Lit.wf, hmin, hmax] at h
  exact h

theorem trod_ints {v : Value} (h : DataW.trod enc Tryd.prog W base sp held fuel 29 [v] = some x) :
    ∃ (ao : Option Addr) (n cap : Nat) (e : Nat → Int), v = .slice ao n cap ∧ n ≤ cap ∧ cap ≤ maxLen ∧ IRow W ao n e := by
  rcases open_slice1 Tryd.underlying29 (by kernel_rfl) h with ⟨hc, _⟩ | ⟨a, len, cap, m, n, V, D, Pl, hc, _, hl, hm, hmm, hx, hel⟩
  · cases hc
    exact ⟨none, 0, 0, fun _ => 0, rfl, Nat.le_refl _, Nat.zero_le _, fun h => absurd h (by omega)⟩
  · cases hc
    have hnm : len ≤ m := by rw [hmm]; split <;> omega
    obtain ⟨b, off, spot⟩ := a
    rcases Nat.eq_zero_or_pos len with h0 | h0
    · subst h0
      exact ⟨_, 0, cap, fun _ => 0, rfl, hl, hm, fun h => absurd h (by omega)⟩
    have h1 := (hel 0 (by omega)).1
    have hsp : spot = none := by simpa [Addr.add] using World.cell?_spot h1
    subst hsp
    have each : ∀ i, i < len → ∃ y : Int, W.cell? ⟨b, off + i, none⟩ = some (.int .i64 y) ∧ I64 y := by
      intro i hi
      obtain ⟨e1, e2⟩ := hel i (by omega)
      rw [plain_addr] at e1
      obtain ⟨y, hV, _, hw⟩ := DataW.trod_int Tryd.underlying3 e2
      have hV' : V i = .int .i64 y := by simpa using hV
      exact ⟨y, by rw [e1, hV'], i64_wf hw⟩
    obtain ⟨xs, hxs⟩ := choose_lt each
    exact ⟨_, len, cap, xs, rfl, hl, hm, fun _ => ⟨b, off, rfl, hxs⟩⟩

theorem trod_introws {v : Value} (h : DataW.trod enc Tryd.prog W base sp held fuel 30 [v] = some x) :
    ∃ (so : Option Addr) (n cap : Nat) (m : Nat → Nat) (e : Nat → Nat → Int), v = .slice so n cap ∧ n ≤ cap ∧ cap ≤ maxLen ∧ LRow W so n m e := by
  rcases open_slice1 Tryd.underlying30 (by kernel_rfl) h with ⟨hc, _⟩ | ⟨a, len, cap, m, n, V, D, Pl, hc, _, hl, hm, hmm, hx, hel⟩
  · cases hc
    exact ⟨none, 0, 0, fun _ => 0, fun _ _ => 0, rfl, Nat.le_refl _, Nat.zero_le _, fun h => absurd h (by omega)⟩
  · cases hc
    have hnm : len ≤ m := by rw [hmm]; split <;> omega
    obtain ⟨b, off, spot⟩ := a
    rcases Nat.eq_zero_or_pos len with h0 | h0
    · subst h0
      exact ⟨_, 0, cap, fun _ => 0, fun _ _ => 0, rfl, hl, hm, fun h => absurd h (by omega)⟩
    have h1 := (hel 0 (by omega)).1
    have hsp : spot = none := by simpa [Addr.add] using World.cell?_spot h1
    subst hsp
    have each : ∀ i, i < len → ∃ y : Nat × (Nat → Int), ∃ ao cap, W.cell? ⟨b, off + i, none⟩ = some (.slice ao y.1 cap) ∧ y.1 ≤ cap ∧ cap ≤ maxLen ∧ IRow W ao y.1 y.2 := by
      intro i hi
      obtain ⟨e1, e2⟩ := hel i (by omega)
      rw [plain_addr] at e1
      obtain ⟨ao, n', cap', e', hV, h3, h4, h5⟩ := trod_ints e2
      exact ⟨(n', e'), ao, cap', by rw [e1, hV], h3, h4, h5⟩
    obtain ⟨ys, hys⟩ := choose_lt each
    exact ⟨_, len, cap, fun i => (ys i).1, fun i => (ys i).2, rfl, hl, hm, fun _ => ⟨b, off, rfl, hys⟩⟩
end
end Go.Proofs.YtodihpaabkplhaaDoor
