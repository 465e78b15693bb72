/- The lexer in memory: peek, next, trimLeft. -/
import Derived.Test.YtodihpaabkplhaaGreatDoorLxa
import Derived.Test.YtodihpaabkplhaaGreatDoorPsp
import Derived.Test.YtodihpaabkplhaaGreatDoorBld
import Derived.Deep.QuietTactic
import Derived.BigQuiet
import Derived.Deep.LoopGhost
namespace Go.Proofs.YtodihpaabkplhaaGreatDoor
open Go.RowKit

/-- A text of at most 2000 bytes from 1 to 127. -/
def Asc (S : ByteArray) : Prop := S.size ≤ 2000 ∧ ∀ i, i < S.size → 1 ≤ ch S i ∧ ch S i ≤ 127
theorem Asc.lt {S : ByteArray} (h : Asc S) (i : Nat) : ch S i < 128 := by
  rcases Nat.lt_or_ge i S.size with h1 | h1
  · have := h.2 i h1; omega
  · unfold ch
    rw [dif_neg (by omega)]
    omega
theorem ch_end (S : ByteArray) (i : Nat) (h : S.size ≤ i) : ch S i = 0 := by
  unfold ch
  rw [dif_neg (by omega)]

/-- Only block b may have turned. -/
structure Only (b : Nat) (w w' : World) : Prop where
  below : Below b w w'
  size : w'.heap.size = w.heap.size
  rest : ∀ k, k ≠ b → w'.heap[k]? = w.heap[k]?
theorem Only.refl (b : Nat) (w : World) : Only b w w := ⟨Below.refl _ _, rfl, fun _ _ => rfl⟩
theorem Only.trans {b : Nat} {u v w : World} (h : Only b u v) (k : Only b v w) : Only b u w := ⟨h.below.trans k.below, k.size.trans h.size, fun i hi => (k.rest i hi).trans (h.rest i hi)⟩
theorem Only.drewN {b : Nat} {u v : World} (h : Only b u v) (n : Nat) : Only b u (v.drewN n) := ⟨Below.drewN h.below n, h.size, h.rest⟩
theorem Only.setCell {b : Nat} {u v : World} (h : Only b u v) (i : Nat) (x : Value) : Only b u (v.setCell ⟨b, i, none⟩ x) :=
  ⟨h.below.setCell (p := ⟨b, i, none⟩) (Nat.le_refl _) x, by simp [World.setCell, h.size], fun k hk => (Below.heap_setCell v ⟨b, i, none⟩ x k hk).trans (h.rest k hk)⟩

/-- The lexer's cells. -/
def lexC (S : ByteArray) (p ln ls lp a1 a2 a3 a4 : Int) (r y e : Value) : Array Value := #[.string S, .int .i64 p, .int .i64 ln, .int .i64 ls, .int .i64 lp, .int .i64 a1, .int .i64 a2, .int .i64 a3, .int .i64 a4, r, y, e]
/-- The lexer lies at block b, at place p, with this error. -/
def LexAt (w : World) (b : Nat) (S : ByteArray) (p : Nat) (e : Value) : Prop :=
  ∃ (ln ls lp a1 a2 a3 a4 : Int) (r y : Value), (0 ≤ ln ∧ ln ≤ p) ∧ (0 ≤ lp ∧ lp ≤ p) ∧ (0 ≤ a2 ∧ a2 ≤ 2000) ∧
    w.heap[b]? = some (.cells (lexC S p ln ls lp a1 a2 a3 a4 r y e) 72 (0, 0))
theorem LexAt.drewN {w : World} {b : Nat} {S : ByteArray} {p : Nat} {e : Value} (h : LexAt w b S p e) (n : Nat) : LexAt (w.drewN n) b S p e := h
theorem LexAt.heap {w w' : World} {b : Nat} {S : ByteArray} {p : Nat} {e : Value} (h : LexAt w b S p e) (hh : w'.heap[b]? = w.heap[b]?) : LexAt w' b S p e := by
  obtain ⟨ln, ls, lp, a1, a2, a3, a4, r, y, h1, h2, h3, h4⟩ := h
  exact ⟨ln, ls, lp, a1, a2, a3, a4, r, y, h1, h2, h3, hh.trans h4⟩

theorem drewN_add (w : World) (m n : Nat) : (w.drewN m).drewN n = w.drewN (m + n) := by simp [World.drewN, Nat.add_assoc]

set_option maxHeartbeats 1000000 in
theorem peek_any (b : Nat) (S : ByteArray) (p : Nat) (er : Value) (w : World) (hS : Asc S) (hp : p ≤ S.size) (h : LexAt w b S p er) :
    Calls Tryz.prog 30 #[.pointer (some ⟨b, 0, none⟩)] w fun e w' => e = .returned (.int .i32 (ch S p)) ∧ ∃ n, w' = w.drewN n := by
  obtain ⟨ln, ls, lp, a1, a2, a3, a4, r, y, h1, h2, h3, h4⟩ := h
  have c0 : w.cell? ⟨b, 0, none⟩ = some (.string S) := by rw [Lib.cell_of_heap h4]; rfl
  have c1 : w.cell? ⟨b, 1, none⟩ = some (.int .i64 (p : Int)) := by rw [Lib.cell_of_heap h4]; rfl
  have hsz := hS.1
  clear h1 h2 h3 h4
  rcases Nat.lt_or_ge p S.size with hlt | hge
  · have hne : ((p : Int) == (S.size : Int)) = false := by rw [beq_eq_false_iff_ne]; omega
    have hlt' : (p : Int) < (S.size : Int) := by omega
    have hc := ch_eq S p hlt
    have hb := hS.2 p hlt
    obtain ⟨y, hy⟩ : ∃ y, ch S p = y := ⟨_, rfl⟩
    rw [hy] at hc hb ⊢
    have hyi : ((S[p]'hlt).toNat : Int) = y := by omega
    have hy2 : (y : Int) ≤ 127 := by omega
    clear hc hb hy hS
    go_enter Tryz.func30, Tryz.ntmps30
    go_wp2
    go_quiet (fail)
    go_wp2
    go_quiet (fail)
    go_wp2
    go_ret
    exact ⟨rfl, _, drewN_add _ _ _⟩
  · have hpe : p = S.size := by omega
    have hz := ch_end S p hge
    rw [hz]
    subst hpe
    clear hz hS hp hge
    go_enter Tryz.func30, Tryz.ntmps30
    go_wp2
    go_quiet (fail)
    go_wp2
    go_ret
    exact ⟨rfl, _, rfl⟩
def LexH (w : World) (b : Nat) (S : ByteArray) (p ln ls lp a1 a2 a3 a4 : Int) (r y e : Value) : Prop := w.heap[b]? = some (.cells (lexC S p ln ls lp a1 a2 a3 a4 r y e) 72 (0, 0))
theorem LexH.c {w : World} {b : Nat} {S : ByteArray} {p ln ls lp a1 a2 a3 a4 : Int} {r y e : Value} (h : LexH w b S p ln ls lp a1 a2 a3 a4 r y e) (i : Nat) : w.cell? ⟨b, i, none⟩ = (lexC S p ln ls lp a1 a2 a3 a4 r y e)[i]? := Lib.cell_of_heap h i
set_option maxHeartbeats 1000000 in
theorem advOne_any (b : Nat) (S : ByteArray) (p ln ls lp a1 a2 a3 a4 : Int) (r y e : Value) (w : World) (h : LexH w b S p ln ls lp a1 a2 a3 a4 r y e) (hp0 : 0 ≤ p) (hp : p ≤ 10000) (hl0 : 0 ≤ lp) (hl : lp ≤ 10000) :
    Calls Tryz.prog 44 #[.pointer (some ⟨b, 1, none⟩)] w fun en w' => en = .returned (.tuple #[]) ∧ LexH w' b S (p + 1) ln ls (lp + 1) a1 a2 a3 a4 r y e ∧ Only b w w' := by
  have c1 : w.cell? ⟨b, 1, none⟩ = some (.int .i64 p) := h.c 1
  have c4 : w.cell? ⟨b, 4, none⟩ = some (.int .i64 lp) := h.c 4
  have f1 : w.frozen? ⟨b, 1, none⟩ = false := Lib.frozen_of_heap h 1
  have f4 : w.frozen? ⟨b, 4, none⟩ = false := Lib.frozen_of_heap h 4
  go_enter Tryz.func44, Tryz.ntmps44
  go_wp2
  go_end0
  refine ⟨rfl, ?_, ((Only.refl b w).setCell 1 _).setCell 4 _⟩
  unfold LexH lexC at *
  simp [World.setCell, Array.getElem?_modify, h]
set_option maxHeartbeats 1000000 in
theorem advLine_any (b : Nat) (S : ByteArray) (p ln ls lp a1 a2 a3 a4 : Int) (r y e : Value) (w : World) (h : LexH w b S p ln ls lp a1 a2 a3 a4 r y e) (hp0 : 0 ≤ p) (hp : p ≤ 10000) (hl0 : 0 ≤ ln) (hl : ln ≤ 10000) :
    Calls Tryz.prog 43 #[.pointer (some ⟨b, 1, none⟩)] w fun en w' => en = .returned (.tuple #[]) ∧ LexH w' b S (p + 1) (ln + 1) (p + 1) 0 a1 a2 a3 a4 r y e ∧ Only b w w' := by
  have c1 : w.cell? ⟨b, 1, none⟩ = some (.int .i64 p) := h.c 1
  have c2 : w.cell? ⟨b, 2, none⟩ = some (.int .i64 ln) := h.c 2
  have c3 : w.cell? ⟨b, 3, none⟩ = some (.int .i64 ls) := h.c 3
  have c4 : w.cell? ⟨b, 4, none⟩ = some (.int .i64 lp) := h.c 4
  have f1 : w.frozen? ⟨b, 1, none⟩ = false := Lib.frozen_of_heap h 1
  have f2 : w.frozen? ⟨b, 2, none⟩ = false := Lib.frozen_of_heap h 2
  have f3 : w.frozen? ⟨b, 3, none⟩ = false := Lib.frozen_of_heap h 3
  have f4 : w.frozen? ⟨b, 4, none⟩ = false := Lib.frozen_of_heap h 4
  go_enter Tryz.func43, Tryz.ntmps43
  go_wp2
  go_end0
  refine ⟨rfl, ?_, ((((Only.refl b w).setCell 1 _).setCell 2 _).setCell 3 _).setCell 4 _⟩
  unfold LexH lexC at *
  simp [World.setCell, Array.getElem?_modify, h]

set_option maxHeartbeats 1000000 in
/-- next: at the end nothing; else one byte on. -/
theorem next_any (b : Nat) (S : ByteArray) (p : Nat) (er : Value) (w : World) (hS : Asc S) (hp : p < S.size) (h : LexAt w b S p er) :
    Calls Tryz.prog 31 #[.pointer (some ⟨b, 0, none⟩)] w fun e w' => e = .returned (.int .i32 (ch S p)) ∧ LexAt w' b S (p + 1) er ∧ Only b w w' := by
  have hpk := peek_any b S p er w hS (by omega) h
  have hsz := hS.1
  have hb := hS.2 p hp
  obtain ⟨ln, ls, lp, a1, a2, a3, a4, r, y, h1, h2, h3, h4⟩ := h
  obtain ⟨c, hc⟩ : ∃ c, ch S p = c := ⟨_, rfl⟩
  rw [hc] at hpk hb ⊢
  have hc0 : ((c : Int) != 0) = true := by rw [bne_iff_ne]; omega
  have HP := Lib.hid hpk
  have HH := Lib.hid h4
  clear hpk hc hS h4 hb
  by_cases h10 : c = 10
  · subst h10
    go_enter Tryz.func31, Tryz.ntmps31
    go_wp2_with fail
    refine HP.out.mono ?_
    rintro en w1 ⟨rfl, n, rfl⟩
    go_wp2_with fail
    refine (advLine_any b S p ln ls lp a1 a2 a3 a4 r y er (w.drewN n) HH.out (by omega) (by omega) (by omega) (by omega)).mono ?_
    rintro en w2 ⟨rfl, hh, ho⟩
    go_wp2_with fail
    go_ret
    exact ⟨rfl, ⟨ln + 1, p + 1, 0, a1, a2, a3, a4, r, y, by omega, by omega, h3, hh⟩, ((Only.refl b w).drewN n).trans ho⟩
  · have h10' : ((c : Int) == 10) = false := by rw [beq_eq_false_iff_ne]; omega
    clear h10
    go_enter Tryz.func31, Tryz.ntmps31
    go_wp2_with fail
    refine HP.out.mono ?_
    rintro en w1 ⟨rfl, n, rfl⟩
    go_wp2_with fail
    refine (advOne_any b S p ln ls lp a1 a2 a3 a4 r y er (w.drewN n) HH.out (by omega) (by omega) (by omega) (by omega)).mono ?_
    rintro en w2 ⟨rfl, hh, ho⟩
    go_wp2_with fail
    go_ret
    exact ⟨rfl, ⟨ln, ls, lp + 1, a1, a2, a3, a4, r, y, by omega, by omega, h3, hh⟩, ((Only.refl b w).drewN n).trans ho⟩

set_option maxHeartbeats 1000000 in
theorem trim_lex (b : Nat) (S : ByteArray) (p k : Nat) (er : Value) (w : World) (hS : Asc S) (hk : Span blankN S p k) (h : LexAt w b S p er) :
    Calls Tryz.prog 29 #[.pointer (some ⟨b, 0, none⟩)] w fun e w' => e = .returned (.tuple #[]) ∧ LexAt w' b S k er ∧ Only b w w' := by
  have HS := Lib.hid hS
  have HK := Lib.hid hk
  have hkl := hk.le
  have hke := hk.end_le
  clear hS hk
  go_enter Tryz.func29, Tryz.ntmps29
  go_wp2_with fail
  go_loopg [] (k - p) (fun g wr => ∃ j : Nat, p ≤ j ∧ g + j = k ∧ LexAt wr b S j er ∧ Only b w wr)
  case atStart => exact ⟨p, Nat.le_refl _, by omega, h, Only.refl _ _⟩
  case round =>
    clear h
    obtain ⟨j, hj, hjk, hl, ho⟩ := hrel
    have hpk := peek_any b S j er wr HS.out (by omega) hl
    have hsp := fun wx => space_any (ch S j) wx (HS.out.lt j)
    have hbl : gk ≠ 0 → blankN (ch S j) := fun h0 => HK.out.all j hj (by omega)
    have hnb : gk = 0 → j = S.size ∨ ¬ blankN (ch S j) := fun h0 => by
      have : j = k := by omega
      rw [this]
      exact HK.out.stop
    have hnx := fun (wx : World) (h : j < S.size) (hx : LexAt wx b S j er) => next_any b S j er wx HS.out h hx
    have hend := ch_end S j
    have hpos := fun h => (HS.out.2 j h).1
    obtain ⟨c, hc⟩ : ∃ c, ch S j = c := ⟨_, rfl⟩
    rw [hc] at hpk hsp hbl hnb hend hpos
    have HP := Lib.hid hpk
    have HSP := Lib.hid hsp
    have HNX := Lib.hid hnx
    clear hpk hsp hnx hc
    cases gk with
    | zero =>
      rcases hnb rfl with hz | hz
      · have hc0 := hend (by omega)
        subst hc0
        clear hbl hnb hend hpos
        go_wp2_with fail
        refine HP.out.mono ?_
        rintro en w1 ⟨rfl, n, rfl⟩
        go_wp2_with fail
        go_end0
        exact ⟨rfl, (by have : j = k := by omega
                        subst this; exact hl.drewN n), ho.drewN n⟩
      · have hdz : decide (blankN c) = false := decide_eq_false hz
        rcases Nat.eq_zero_or_pos c with hc0 | hc0
        · subst hc0
          clear hbl hnb hend hpos
          go_wp2_with fail
          refine HP.out.mono ?_
          rintro en w1 ⟨rfl, n, rfl⟩
          go_wp2_with fail
          go_end0
          exact ⟨rfl, (by have : j = k := by omega
                          subst this; exact hl.drewN n), ho.drewN n⟩
        · have hcb : ((c : Int) == 0) = false := by rw [beq_eq_false_iff_ne]; omega
          clear hbl hnb hend hpos
          go_wp2_with fail
          refine HP.out.mono ?_
          rintro en w1 ⟨rfl, n, rfl⟩
          go_wp2_with fail
          refine (HSP.out _).mono ?_
          rintro en w1 ⟨rfl, rfl⟩
          go_wp2_with fail
          go_end0
          exact ⟨rfl, (by have : j = k := by omega
                          subst this; exact hl.drewN n), ho.drewN n⟩
    | succ g =>
      have hdz : decide (blankN c) = true := decide_eq_true (hbl (by omega))
      have hjs : j < S.size := by omega
      have hc0 := hpos hjs
      have hcb : ((c : Int) == 0) = false := by rw [beq_eq_false_iff_ne]; omega
      clear hbl hnb hend hpos
      go_wp2_with fail
      refine HP.out.mono ?_
      rintro en w1 ⟨rfl, n, rfl⟩
      go_wp2_with fail
      refine (HSP.out _).mono ?_
      rintro en w1 ⟨rfl, rfl⟩
      go_wp2_with fail
      refine (HNX.out _ hjs (hl.drewN n)).mono ?_
      rintro en w2 ⟨rfl, hl2, ho2⟩
      go_wp2_with fail
      go_roundg g
      case measure => omega
      case rel => exact ⟨j + 1, by omega, by omega, hl2, (ho.drewN n).trans ho2⟩
end Go.Proofs.YtodihpaabkplhaaGreatDoor
