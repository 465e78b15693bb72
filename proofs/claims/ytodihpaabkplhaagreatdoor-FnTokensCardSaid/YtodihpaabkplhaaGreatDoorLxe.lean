/- The lexer's errors. strings.Builder, written on behind String. The lexer's errors, called; what a call leaves. -/
import Derived.Test.YtodihpaabkplhaaGreatDoorLxb
import Derived.Deep.RegionWith
import Derived.BigRegion
import Derived.RegionTactic
import Derived.StillTailTactics
import Derived.Deep.CutBlock
import Derived.Deep.DeepCutAuto
import Derived.Test.YtodihpaabkplhaaGreatDoorShelg
import Derived.Test.YtodihpaabkplhaaGreatDoorLxk
import Derived.Laws.IdiomStrings

namespace Go.Proofs.YtodihpaabkplhaaGreatDoor
open Go.RowKit

set_option maxHeartbeats 1000000 in
theorem setError_any (b : Nat) (S : ByteArray) (p ln ls lp a1 a2 a3 a4 : Int) (r y : Value) (t : TypeId) (v : Value) (w : World) (h : LexH w b S p ln ls lp a1 a2 a3 a4 r y .nilIface) :
    Calls Tryz.prog 89 #[.pointer (some ⟨b, 0, none⟩), .iface t v] w fun en w' => en = .returned (.tuple #[]) ∧ LexH w' b S p ln ls lp a1 a2 a3 a4 r y (.iface t v) ∧ Only b w w' := by
  have c11 : w.cell? ⟨b, 11, none⟩ = some .nilIface := h.c 11
  have f11 : w.frozen? ⟨b, 11, none⟩ = false := Lib.frozen_of_heap h 11
  go_enter Tryz.func89, Tryz.ntmps89
  go_wp2
  go_end0
  refine ⟨rfl, ?_, (Only.refl b w).setCell 11 _⟩
  unfold LexH lexC at *
  simp [World.setCell, Array.getElem?_modify, h]

set_option maxRecDepth 100000 in
set_option maxHeartbeats 2000000 in
theorem setSyntax_any (b : Nat) (S : ByteArray) (p : Nat) (t1 t2 : ByteArray) (w : World) (_ : p ≤ 2000) (h : LexAt w b S p .nilIface) :
    Calls Tryz.prog 69 #[.pointer (some ⟨b, 0, none⟩), .string t1, .string t2] w fun en w' => en = .returned (.tuple #[]) ∧ (∃ t v, LexAt w' b S p (.iface t v)) ∧ Below b w w' := by
  obtain ⟨ln, ls, lp, a1, a2, a3, a4, r, y, h1, h2, h3, h4⟩ := h
  have hL : LexH w b S p ln ls lp a1 a2 a3 a4 r y .nilIface := h4
  have hblt : b < w.heap.size := heap_lt h4
  have c0 : w.cell? ⟨b, 0, none⟩ = some (.string S) := hL.c 0
  have c6 : w.cell? ⟨b, 6, none⟩ = some (.int .i64 a2) := hL.c 6
  have c7 : w.cell? ⟨b, 7, none⟩ = some (.int .i64 a3) := hL.c 7
  have c8 : w.cell? ⟨b, 8, none⟩ = some (.int .i64 a4) := hL.c 8
  have hLd : ∀ (o : Obj), LexH ((w.alloc o).drew) b S p ln ls lp a1 a2 a3 a4 r y .nilIface := fun o => (Below.heap_alloc w o b hblt).trans h4
  have hBd : ∀ (o : Obj), Below b w ((w.alloc o).drew) := fun o => ((Below.refl b w).alloc (Nat.le_of_lt hblt) o).drew
  have HL := Lib.hid hL
  have HLD := Lib.hid hLd
  have HBD := Lib.hid hBd
  clear h4 hL hLd hBd
  go_enter Tryz.func69, Tryz.ntmps69
  go_region_with (go_at_call 89; refine (setError_any b S p ln ls lp a1 a2 a3 a4 r y _ _ _ (HLD.out _)).mono ?_; rintro en w2 ⟨rfl, hl, ho⟩)
  all_goals go_wp2
  all_goals go_end0
  all_goals exact ⟨rfl, ⟨_, _, ln, ls, lp, a1, a2, a3, a4, r, y, h1, h2, h3, hl⟩, (HBD.out _).trans ho.below⟩
end Go.Proofs.YtodihpaabkplhaaGreatDoor

namespace Go.Proofs.YtodihpaabkplhaaGreatDoor
open Go.RowKit

def BldF (w : World) (B b : Nat) (l : List UInt8) : Prop := Lib.IsBuilderF 97 5 B b (Lib.byteCells l) w

theorem copyCheckF_any (B b : Nat) (bs : List Value) (w : World) (h : Lib.IsBuilderF 97 5 B b bs w) :
    Calls Tryz.prog 65 #[.pointer (some ⟨b, 0, none⟩)] w fun e w' => e = .returned (.tuple #[]) ∧ (Lib.BuilderAtF 97 5 B b (.pointer (some ⟨b, 0, none⟩)) bs w' ∧ Below B w w') := by
  rcases h with h | h
  · refine (copyCheck_fresh b w h.cell0 h.shape h.frozen0).mono ?_
    rintro e w' ⟨rfl, rfl⟩
    exact ⟨rfl, h.used _, (Below.refl B w).setCell (p := ⟨b, 0, none⟩) h.1 _⟩
  · refine (copyCheck_used b w h.cell0).mono ?_
    rintro e w' ⟨rfl, rfl⟩
    exact ⟨rfl, h, Below.refl B _⟩

theorem own_sliceF {w : World} {B n : Nat} {v : Value} {xs : List Value} (h : w.ownsRowF B 5 1 v n xs) : ∃ ao cap, v = .slice ao n cap := by
  rcases h.2 with ⟨hv, h0⟩ | ⟨g, cap, cur, fz, hv, _⟩
  · exact ⟨none, 0, by rw [hv, h0]⟩
  · exact ⟨_, _, hv⟩

set_option maxHeartbeats 2000000 in
set_option maxRecDepth 100000 in
theorem writeRuneF_any (B b : Nat) (l : List UInt8) (c : Nat) (w : World) (hc : c < 128) (h : BldF w B b l) (hlen : l.length ≤ 100000000) (hBw : B ≤ w.heap.size) :
    Calls Tryz.prog 45 #[.pointer (some ⟨b, 0, none⟩), .int .i32 c] w fun e w' => e = .returned (.tuple #[.int .i64 1, .nilIface]) ∧ BldF w' B b (l ++ [UInt8.ofNat c]) ∧ Below B w w' := by
  have hcc := copyCheckF_any B b _ w h
  have hbl : (Lib.byteCells l).length = l.length := by simp [Lib.byteCells]
  have hrc : Lib.runeCells (c : Int) = [.int .u8 (c : Int)] := by
    unfold Lib.runeCells
    rw [Lib.encodeRuneZ_one (by omega) (by omega)]
    rfl
  go_enter Tryz.func45, Tryz.ntmps45
  go_wp2_with fail
  refine hcc.mono ?_
  rintro e w1 ⟨rfl, h1, hb1⟩
  clear hcc
  obtain ⟨hB, v, hbk, hown, hne⟩ := h1
  rw [hbl] at hown
  obtain ⟨ao, cap, rfl⟩ := own_sliceF hown
  have c0 : w1.cell? ⟨b, 0, none⟩ = some (.pointer (some ⟨b, 0, none⟩)) := by rw [Lib.cell_of_heap hbk]; rfl
  have c1 : w1.cell? ⟨b, 1, none⟩ = some (.slice ao l.length cap) := by rw [Lib.cell_of_heap hbk]; rfl
  have hlt : b < w1.heap.size := heap_lt hbk
  have har := utf8_AppendRune_row B _ l.length (Lib.byteCells l) (c : Int) (by omega) (by omega) w1 hown (by omega) (by have := hb1.size; omega)
  rw [hrc] at har
  clear hrc
  go_wp2_with fail
  refine har.mono ?_
  rintro e w2 ⟨v', rfl, hown', o, hgrow⟩
  clear har c0 c1
  have hbe : w2.heap[b]? = w1.heap[b]? := by
    have e1 := hgrow.block b (by simp; omega) (fun e => hne e.symm)
    rw [e1]
    exact Below.heap_alloc w1 o b hlt
  have hb2 : w2.heap[b]? = some (.cells #[.pointer (some ⟨b, 0, none⟩), .slice ao l.length cap] 97 (0, 0)) := by
    rw [hbe]
    exact hbk
  have d0 : w2.cell? ⟨b, 0, none⟩ = some (.pointer (some ⟨b, 0, none⟩)) := by rw [Lib.cell_of_heap hb2]; rfl
  have d1 : w2.cell? ⟨b, 1, none⟩ = some (.slice ao l.length cap) := by rw [Lib.cell_of_heap hb2]; rfl
  have f1 : w2.frozen? ⟨b, 1, none⟩ = false := Lib.frozen_of_heap hb2 1
  have hBl : Below B w1 w2 := ((Below.refl B w1).alloc (by have := hb1.size; omega) o).grown hgrow (by have := hb1.size; simp; omega) (fun k hk => (hown.lt k hk).1)
  simp only [List.length_singleton] at hown'
  obtain ⟨ao', cap', rfl⟩ := own_sliceF hown'
  have one : (l.length : Int) + 1 - (l.length : Int) = 1 := by omega
  go_wp2
  go_ret2
  refine ⟨rfl, ?_, (hb1.trans hBl).setCell (p := ⟨b, 1, none⟩) hB _⟩
  refine Or.inr (Lib.BuilderAtF.put (T := 97) (e := 5) hB hb2 (bs' := Lib.byteCells (l ++ [UInt8.ofNat c])) ?_ (by decide))
  have e : (Lib.byteCells (l ++ [UInt8.ofNat c])).length = l.length + 1 := by simp [Lib.byteCells]
  have e8 : (UInt8.ofNat c).toNat = c := by simp; omega
  have e2 : Lib.byteCells (l ++ [UInt8.ofNat c]) = Lib.byteCells l ++ [.int .u8 (c : Int)] := by
    rw [Lib.byteCells_append]
    simp [Lib.byteCells]
    omega
  rw [e, e2]
  exact hown'

theorem bldF_only {B b g : Nat} {l : List UInt8} {w w' : World} (h : BldF w B g l) (ho : Only b w w') (hb : b < B) : BldF w' B g l := by
  have hk : ∀ p, Lib.BuilderAtF 97 5 B g p (Lib.byteCells l) w → Lib.BuilderAtF 97 5 B g p (Lib.byteCells l) w' := by
    rintro p ⟨hB, v, hbk, hown, hne⟩
    refine ⟨hB, v, (ho.rest g (by omega)).trans hbk, ?_, hne⟩
    refine ⟨hown.1, ?_⟩
    rcases hown.2 with ⟨e, n⟩ | ⟨k, cap, cur, fz, e, hBg, hg, h4⟩
    · exact Or.inl ⟨e, n⟩
    · exact Or.inr ⟨k, cap, cur, fz, e, hBg, (ho.rest k (by omega)).trans hg, h4⟩
  rcases h with h | h
  · exact Or.inl (hk _ h)
  · exact Or.inr (hk _ h)
theorem bldF_new (w : World) : BldF (w.alloc (.cells #[.pointer none, .slice none 0 0] 97)) w.heap.size w.heap.size [] := by
  refine Or.inl ⟨Nat.le_refl _, .slice none 0 0, ?_, World.ownsRowF_nil _ _ _ _, by simp [Value.ownBlock]⟩
  show (w.heap.push _)[w.heap.size]? = _
  simp
end Go.Proofs.YtodihpaabkplhaaGreatDoor

namespace Go.Proofs.YtodihpaabkplhaaGreatDoor
open Go.RowKit

/-- Of the old blocks only block b may have turned. -/
structure Frm (b : Nat) (w w' : World) : Prop where
  below : Below b w w'
  rest : ∀ k, k ≠ b → k < w.heap.size → w'.heap[k]? = w.heap[k]?
theorem Frm.refl (b : Nat) (w : World) : Frm b w w := ⟨Below.refl _ _, fun _ _ _ => rfl⟩
theorem Frm.trans {b : Nat} {u v w : World} (h : Frm b u v) (k : Frm b v w) : Frm b u w := ⟨h.below.trans k.below, fun i hi hs => (k.rest i hi (Nat.lt_of_lt_of_le hs h.below.size)).trans (h.rest i hi hs)⟩
theorem Only.frm {b : Nat} {u v : World} (h : Only b u v) : Frm b u v := ⟨h.below, fun k hk _ => h.rest k hk⟩
theorem Frm.only {b : Nat} {u v w : World} (h : Frm b u v) (k : Only b v w) : Frm b u w := h.trans k.frm
theorem Frm.drewN {b : Nat} {u v : World} (h : Frm b u v) (n : Nat) : Frm b u (v.drewN n) := ⟨Below.drewN h.below n, h.rest⟩
theorem Frm.drew {b : Nat} {u v : World} (h : Frm b u v) : Frm b u v.drew := ⟨h.below.drew, h.rest⟩
/-- What turns no block below g keeps the frame of a world that ended before g. -/
theorem Frm.above {b g : Nat} {u v w : World} (h : Frm b u v) (k : Below g v w) (hg : u.heap.size ≤ g) (hb : b ≤ g) : Frm b u w :=
  ⟨h.below.trans (k.mono hb), fun i hi hs => (k.block i (by omega)).trans (h.rest i hi hs)⟩
theorem Frm.alloc {b : Nat} {u v : World} (h : Frm b u v) (hb : b ≤ u.heap.size) (o : Obj) : Frm b u (v.alloc o) :=
  h.above ((Below.refl u.heap.size v).alloc h.below.size o) (Nat.le_refl _) hb
theorem LexAt.lt {w : World} {b : Nat} {S : ByteArray} {p : Nat} {e : Value} (h : LexAt w b S p e) : b < w.heap.size := by
  obtain ⟨ln, ls, lp, a1, a2, a3, a4, r, y, h1, h2, h3, h4⟩ := h
  exact heap_lt h4
theorem LexAt.below {w w' : World} {b B : Nat} {S : ByteArray} {p : Nat} {e : Value} (h : LexAt w b S p e) (k : Below B w w') (hb : b < B) : LexAt w' b S p e := h.heap (k.block b hb)

set_option maxHeartbeats 1000000 in
theorem error_any (b : Nat) (S : ByteArray) (p : Nat) (t1 : ByteArray) (w : World) (hp : p ≤ 2000) (h : LexAt w b S p .nilIface) :
    Calls Tryz.prog 50 #[.pointer (some ⟨b, 0, none⟩), .string t1] w fun en w' => en = .returned (.tuple #[]) ∧ (∃ t v, LexAt w' b S p (.iface t v)) ∧ Below b w w' := by
  have hs := setSyntax_any b S p t1 ⟨#[]⟩ w hp h
  have HS := Lib.hid hs
  clear hs
  go_enter Tryz.func50, Tryz.ntmps50
  go_wp2_with fail
  refine HS.out.mono ?_
  rintro en w1 ⟨rfl, hl, ho⟩
  go_wp2_with fail
  go_end0
  exact ⟨rfl, hl, ho⟩

set_option maxHeartbeats 1000000 in
theorem setLexError_any (b : Nat) (S : ByteArray) (p : Nat) (t1 : ByteArray) (w : World) (hp : p ≤ 2000) (ht : t1.size ≤ 1000) (h : LexAt w b S p .nilIface) :
    Calls Tryz.prog 36 #[.pointer (some ⟨b, 0, none⟩), .string t1] w fun en w' => en = .returned (.tuple #[]) ∧ (∃ t v, LexAt w' b S p (.iface t v)) ∧ Below b w w' := by
  have hs := fun t => error_any b S p t w hp h
  have HS := Lib.hid hs
  clear hs
  go_enter Tryz.func36, Tryz.ntmps36
  go_wp2_with fail
  refine (HS.out _).mono ?_
  rintro en w1 ⟨rfl, hl, ho⟩
  go_wp2_with fail
  go_end0
  exact ⟨rfl, hl, ho⟩
end Go.Proofs.YtodihpaabkplhaaGreatDoor
