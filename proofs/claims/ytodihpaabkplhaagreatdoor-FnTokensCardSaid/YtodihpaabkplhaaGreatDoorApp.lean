/- A byte slice that the call owns: what it holds, how it grows by one byte, what else stays. -/
import Derived.Test.YtodihpaabkplhaaGreatDoorUni
import Derived.Test.YtodihpaabkplhaaGreatDoorCel
import Derived.Maps.AppendAt
import Derived.Lib.UnsafeStr
import Derived.Lib.AppendStr
namespace Go.Proofs.YtodihpaabkplhaaGreatDoor
open Go.RowKit

/-- The slice v owns just the bytes l, in a row among the blocks from B on. -/
def Bytes (w : World) (B : Nat) (v : Value) (l : List UInt8) : Prop := w.ownsRow B 5 1 v l.length (Lib.byteCells l)

/-- From w, where the slice was v, to w', where it is v': below B nothing has turned; each block beside v's own is as it was, and is not v's own now. -/
structure Grew (B : Nat) (w : World) (v : Value) (w' : World) (v' : Value) : Prop where
  below : Below B w w'
  block : ∀ b, b < w.heap.size → v.ownBlock ≠ some b → w'.heap[b]? = w.heap[b]? ∧ v'.ownBlock ≠ some b

theorem Grew.refl (B : Nat) (w : World) (v : Value) : Grew B w v w v := ⟨Below.refl _ _, fun _ _ h => ⟨rfl, h⟩⟩
theorem Grew.trans {B : Nat} {a b c : World} {u v x : Value} (h : Grew B a u b v) (k : Grew B b v c x) : Grew B a u c x :=
  ⟨h.below.trans k.below, fun n hn hu => by
    have h1 := h.block n hn hu
    have h2 := k.block n (Nat.lt_of_lt_of_le hn h.below.size) h1.2
    exact ⟨h2.1.trans h1.1, h2.2⟩⟩
theorem Grew.cells {B : Nat} {w w' : World} {v v' : Value} (h : Grew B w v w' v') {b : Nat} {T : TypeId} {n : Nat} {c : Nat → Value} (hc : Cells w b T n c) (hb : v.ownBlock ≠ some b) : Cells w' b T n c :=
  hc.heap (h.block b hc.lt hb).1

theorem info_byte : (Tryz.prog.info? 5).map (fun i => (i.zero, i.size, i.bytes)) = some (some (.int .u8 0), 1, 1) := by kernel_rfl

/-- 'append(v, c)' of one byte: it has been laid into a block of its own first. -/
theorem wpList_push {ops : Array Oper} {rest : List Oper} {o : Oper} {a : Act} {Q : Exit → Act → World → Prop} (s x : Operand) (hgd : o.guard = none)
    (ho : o.op = .call { callee := .builtin .append, args := #[s, x], argTypes := #[37, 37] })
    (B : Nat) (v : Value) (l : List UInt8) (c : UInt8) (W : World) (cv : Value) (hcv : cv = .int .u8 (c.toNat : Int)) (hs : a.eval s = v) (hx : a.eval x = .slice (some ⟨W.heap.size, 0, none⟩) 1 1)
    (hown : Bytes W B v l) (hl : l.length ≤ 1000000000000) (hB : B ≤ W.heap.size)
    (h : ∀ v' w', Bytes w' B v' (l ++ [c]) → Grew B W v w' v' → v' ≠ .slice none 0 0 → wpList Tryz.prog ops Q rest (a.put o.dst v') w') :
    wpList Tryz.prog ops Q (o :: rest) a (W.alloc (.cells #[cv] 5)) := by
  subst hcv
  obtain ⟨i0, hi, hz0, hz1, hz2⟩ := info_parts info_byte
  refine wpList_append_own_at (P := Tryz.prog) (w := W.alloc (.cells #[.int .u8 (c.toNat : Int)] 5)) hgd s x 37 ho B 5 i0 (.int .u8 0) 1 1 Tryz.underlying37 hi hz0 hz1 hz2 rfl (by decide) v l.length (Lib.byteCells l) hs (hown.alloc _) ⟨W.heap.size, 0, none⟩ 1 1 [.int .u8 (c.toNat : Int)] hx rfl (cell_one_new _ _ _) ?_ ?_ ?_ ?_ ?_
  · intro u hu; simp at hu; subst hu; rfl
  · unfold maxLen; omega
  · omega
  · simp; omega
  · intro v' w' h1 h2 h3 h4
    refine h v' w' ?_ ⟨?_, ?_⟩ ?_
    · unfold Bytes
      rw [Lib.byteCells_append, List.length_append]
      exact h1
    · exact ((Below.refl B W).alloc hB _).grown h2 (by simp; omega) (fun k hk => (hown.lt k hk).1)
    · intro b hb hne
      have e : (W.alloc (.cells #[.int .u8 (c.toNat : Int)] 5)).heap[b]? = W.heap[b]? := Below.heap_alloc W _ b hb
      refine ⟨(h2.block b (by simp; omega) (fun e => hne e.symm)).trans e, ?_⟩
      rcases h4 with h4 | h4
      · rw [h4]; exact hne
      · rw [h4]
        simp
        omega
    · intro e
      rw [h3] at e
      omega
end Go.Proofs.YtodihpaabkplhaaGreatDoor
