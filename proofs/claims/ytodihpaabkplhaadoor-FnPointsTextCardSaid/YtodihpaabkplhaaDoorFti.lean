/- ftoa64: what is no number; all of it. -/
import Derived.Test.YtodihpaabkplhaaDoorFta
namespace Go.Proofs.YtodihpaabkplhaaDoor
open Go.RowKit

def infText (x : Nat) : List UInt8 := if m0F x ≠ 0 then [78, 97, 78] else if negF x then [45, 73, 110, 102] else [43, 73, 110, 102]

/-- 'append(v, s...)', s a string. -/
theorem wpList_text {ops : Array Oper} {rest : List Oper} {o : Oper} {a : Act} {Q : Exit → Act → World → Prop} (s x : Operand) (hgd : o.guard = none)
    (ho : o.op = .call { callee := .builtin .append, args := #[s, x], argTypes := #[70, 9] })
    (B : Nat) (v : Value) (l t : List UInt8) (w : World) (hs : a.eval s = v) (hx : a.eval x = .string ⟨t.toArray⟩)
    (hown : Bytes w B v l) (hl : l.length ≤ 1000000000) (ht : t.length ≤ 1000000000) (hB : B ≤ w.heap.size)
    (h : ∀ v' w', Bytes w' B v' (l ++ t) → Below B w w' → wpList Tryd.prog ops Q rest (a.put o.dst v') w') :
    wpList Tryd.prog ops Q (o :: rest) a w := by
  obtain ⟨i0, hi, hz0, hz1, hz2⟩ := info_parts info_byte
  have hsz : (⟨t.toArray⟩ : ByteArray).size = t.length := by show t.toArray.size = _; simp
  refine Lib.wpList_append_own_string (P := Tryd.prog) (w := w) hgd s x 70 9 ho B 5 i0 Tryd.underlying70 (by kernel_rfl) hi hz0 hz1 hz2 v l.length (Lib.byteCells l) hs hown ⟨t.toArray⟩ hx ?_ ?_ hB ?_
  · rw [hsz]; unfold maxLen; omega
  · rw [hsz]; omega
  · intro v' w' h1 h2 _
    refine h v' w' ?_ ?_
    · unfold Bytes
      rw [Lib.byteCells_append, List.length_append]
      rw [hsz] at h1
      exact h1
    · exact (Below.refl B w).grown h2 hB (fun k hk => (World.ownsRow.lt hown k hk).1)

set_option maxRecDepth 100000 in
set_option maxHeartbeats 1600000 in
theorem ftoa_inf (B x : Nat) (dst : Value) (prec : Int) (w : World) (hb : Bytes w B dst []) (hB : B ≤ w.heap.size) (hx : x < 18446744073709551616) (he : eF x = 2047) :
    Calls Tryd.prog 60 #[dst, .float .f64 x, .int .u8 102, .int .i64 prec] w fun e w' => ∃ v', e = .returned v' ∧ Bytes w' B v' (infText x) ∧ Below B w w' := by
  have f1 : (x : Int) / 4503599627370496 = ((x / 4503599627370496 : Nat) : Int) := by omega
  obtain ⟨X, hX⟩ : ∃ X, x / 4503599627370496 = X := ⟨_, rfl⟩
  have hX4 : X < 4096 := by omega
  have f2 := bits_e X hX4
  have f3 := bits_m x hx
  have f4 : ((x : Int) / 9223372036854775808 != 0) = negF x := rfl
  have hE : X % 2048 = eF x := by rw [← hX]; rfl
  have hM : x % 4503599627370496 = m0F x := rfl
  have hM52 : m0F x < 4503599627370496 := by unfold m0F; omega
  rw [hX] at f1
  rw [hE] at f2
  rw [hM] at f3
  obtain ⟨neg, hn⟩ : ∃ neg, negF x = neg := ⟨_, rfl⟩
  obtain ⟨m0, hm0⟩ : ∃ m0, m0F x = m0 := ⟨_, rfl⟩
  rw [hn] at f4
  rw [he] at f2
  rw [hm0] at f3
  have hfin : infText x = if m0 ≠ 0 then [78, 97, 78] else if neg then [45, 73, 110, 102] else [43, 73, 110, 102] := by unfold infText; rw [hm0, hn]
  have HF := Lib.hid hfin
  clear hfin hE hM hX hM52 he hn hm0
  go_enter Tryd.func60, Tryd.ntmps60
  go_wp2_with fail
  go_quiet (fail)
  have hb2 : Bytes (w.drewN nq) B dst [] := hb
  obtain ⟨W, hW⟩ : ∃ W, w.drewN nq = W := ⟨_, rfl⟩
  have hB2 : Below B w W := hW ▸ Below.drewN (Below.refl _ _) _
  rw [hW] at hb2 ⊢
  have hB3 : B ≤ W.heap.size := Nat.le_trans hB hB2.size
  clear hW hb hB
  by_cases h0 : m0 = 0
  · subst h0
    rw [if_neg (by decide)] at HF
    cases neg with
    | true =>
      go_wp2_with (at_builtin; refine wpList_text _ _ rfl rfl B dst [] [45, 73, 110, 102] _ (by rfl) (by rfl) hb2 (by simp) (by simp) hB3 ?_)
      intro v1 w1 hb4 hB4
      go_wp2
      go_ret
      exact ⟨v1, rfl, by rw [HF.out]; exact hb4, hB2.trans hB4⟩
    | false =>
      go_wp2_with (at_builtin; refine wpList_text _ _ rfl rfl B dst [] [43, 73, 110, 102] _ (by rfl) (by rfl) hb2 (by simp) (by simp) hB3 ?_)
      intro v1 w1 hb4 hB4
      go_wp2
      go_ret
      exact ⟨v1, rfl, by rw [HF.out]; exact hb4, hB2.trans hB4⟩
  · rw [if_pos h0] at HF
    have h1 : ((m0 : Int) != 0) = true := by simp [bne, h0]
    have h2 : ((m0 : Int) == 0) = false := by rw [beq_eq_false_iff_ne]; omega
    clear h0
    go_wp2_with (at_builtin; refine wpList_text _ _ rfl rfl B dst [] [78, 97, 78] _ (by rfl) (by rfl) hb2 (by simp) (by simp) hB3 ?_)
    intro v1 w1 hb4 hB4
    go_wp2
    go_ret
    exact ⟨v1, rfl, by rw [HF.out]; exact hb4, hB2.trans hB4⟩
end Go.Proofs.YtodihpaabkplhaaDoor
