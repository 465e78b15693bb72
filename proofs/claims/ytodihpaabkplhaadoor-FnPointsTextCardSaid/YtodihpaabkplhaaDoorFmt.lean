/- FormatFloat for 'f'. -/
import Derived.Test.YtodihpaabkplhaaDoorFts
import Derived.Test.YtodihpaabkplhaaDoorFtp
import Derived.Test.YtodihpaabkplhaaDoorFti
import Derived.Laws.BytesString
namespace Go.Proofs.YtodihpaabkplhaaDoor
open Go.RowKit

theorem foldl_push : ∀ (l : List UInt8) (s : ByteArray), (l.map fun b => (b.toNat : Int)).foldl (fun r n => r.push (UInt8.ofNat n.toNat)) s = ⟨s.data ++ l.toArray⟩
  | [], s => by simp
  | b :: l, s => by
    rw [List.map_cons, List.foldl_cons, foldl_push l]
    have : (UInt8.ofNat ((b.toNat : Int)).toNat) = b := by simp
    rw [this]
    cases s
    simp [ByteArray.push]
theorem conv_bytes (w : World) (B : Nat) (v : Value) (l : List UInt8) (h : Bytes w B v l) : (convert 70 9 v).run Tryd.prog w = .ok (.string ⟨l.toArray⟩) w := by
  rcases h.2 with ⟨e, n⟩ | ⟨g, cap, cur, e, _, hg, _, _, _, ht⟩
  · have hl : l = [] := List.eq_nil_of_length_eq_zero n
    subst hl e
    rw [run_convert_bytes_string w _ _ 5 none 0 0 Tryd.underlying70 (by kernel_rfl) (by kernel_rfl)]
    simp [Conv.bytesToString, Sem.run_pure]
    rfl
  · subst e
    rw [run_convert_bytes_string w _ _ 5 _ _ _ Tryd.underlying70 (by kernel_rfl) (by kernel_rfl)]
    have hb : Lib.byteCells l = (l.map fun b => (b.toNat : Int)).map (Value.int .u8) := by unfold Lib.byteCells; rw [List.map_map]; rfl
    have hload : (loadCells ⟨g, 0, none⟩ l.length).run Tryd.prog w = .ok (Lib.byteCells l).toArray w := by
      have := run_loadCells_list (P := Tryd.prog) (w := w) ⟨g, 0, none⟩ (Lib.byteCells l) (fun j v hj => by
        have hjl : j < l.length := by
          have := (List.getElem?_eq_some_iff.1 hj).1
          simpa [Lib.byteCells] using this
        rw [← ht, List.getElem?_take, if_pos (by omega), Array.getElem?_toList] at hj
        have e : (⟨g, 0, none⟩ : Addr).add j = ⟨g, j, none⟩ := by simp [Addr.add]; exact fun h => h.symm
        rw [e, Lib.cell_of_heap hg]
        exact hj)
      rw [show (Lib.byteCells l).length = l.length by simp [Lib.byteCells]] at this
      exact this
    rw [run_bytesToString w ⟨g, 0, none⟩ l.length cap (l.map fun b => (b.toNat : Int)) (by rw [hload, hb]), foldl_push]
    simp

def ftoaF (x : Nat) (prec : Int) : List UInt8 :=
  if eF x = 2047 then infText x else if mantF x = 0 then efgF (negF x) (fun _ => 0) 0 0 prec else if prec < 0 then shText x else precText x prec

theorem ftoa_any (cb co B x : Nat) (dst : Value) (prec : Int) (w : World) (T : Tabs cb co w) (hb : Bytes w B dst []) (hB : B ≤ w.heap.size) (hx : x < 18446744073709551616) (p0 : -1 ≤ prec) (p1 : prec ≤ 20) :
    Calls Tryd.prog 60 #[dst, .float .f64 x, .int .u8 102, .int .i64 prec] w fun e w' => ∃ v', e = .returned v' ∧ Bytes w' B v' (ftoaF x prec) ∧ Below B w w' := by
  unfold ftoaF
  by_cases h1 : eF x = 2047
  · rw [if_pos h1]
    exact ftoa_inf B x dst prec w hb hB hx h1
  · rw [if_neg h1]
    by_cases h2 : mantF x = 0
    · rw [if_pos h2]
      have h3 : eF x = 0 ∧ m0F x = 0 := by
        unfold mantF at h2
        split at h2
        · rename_i h; exact ⟨h, h2⟩
        · omega
      exact ftoa_zero B x dst prec w hb hB hx h3.1 h3.2 p0 p1
    · rw [if_neg h2]
      by_cases h3 : prec < 0
      · rw [if_pos h3]
        have h4 : prec = -1 := by omega
        subst h4
        exact ftoa_short cb co B x dst w T hb hB hx h1 h2
      · rw [if_neg h3]
        exact ftoa_prec cb co B x dst prec w T hb hB hx h1 h2 (by omega) p1

set_option maxRecDepth 100000 in
set_option maxRecDepth 100000 in
set_option maxHeartbeats 1600000 in
theorem format_inner (cb co x : Nat) (prec : Int) (w : World) (T : Tabs cb co w) (hx : x < 18446744073709551616) (p0 : -1 ≤ prec) (p1 : prec ≤ 20) :
    Calls Tryd.prog 46 #[.float .f64 x, .int .u8 102, .int .i64 prec, .int .i64 64] w fun e w' => e = .returned (.string ⟨(ftoaF x prec).toArray⟩) ∧ Below w.heap.size w w' := by
  obtain ⟨g, hg⟩ : ∃ g, w.heap.size = g := ⟨_, rfl⟩
  rw [hg]
  have hmx : max (prec + 4) 24 = 24 := by omega
  obtain ⟨i0, hi, hz0, hz1, hz2⟩ := info_parts info_byte
  obtain ⟨w1, hmk, hown, hgr⟩ := run_makeSlice_owned (P := Tryd.prog) w g 70 5 i0 (.int .u8 0) 1 Tryd.underlying70 hi hz0 hz1 .i64 .i64 24 (by decide) (by rw [hz2]; decide) (by decide) (by omega)
  have hB1 : Below g w w1 := (Below.refl g w).grown hgr (by omega) (fun k hk => by cases hk)
  have T1 : Tabs cb co w1 := T.below (hg ▸ hB1)
  have hb1 : Bytes w1 g (.slice (some ⟨w.heap.size, 0, none⟩) 0 24) [] := hown
  rw [hg] at hb1 hmk
  have hf := ftoa_any cb co g x _ prec w1 T1 hb1 (by have := hB1.size; omega) hx p0 p1
  clear T T1 hown hgr hi hz0 hz1 hz2 hb1
  change (Instr.makeSlice 70 (.int .i64 0) (.int .i64 24)).run Tryd.prog w = _ at hmk
  go_enter Tryd.func46, Tryd.ntmps46
  go_wp2_with fail
  refine hf.mono ?_
  rintro e w2 ⟨v', rfl, hb2, hB2⟩
  have hcv := conv_bytes w2 g v' _ hb2
  clear hmk hf hb2
  go_wp2
  go_ret
  exact ⟨rfl, hB1.trans hB2⟩

set_option maxHeartbeats 1600000 in
theorem format_any (cb co x : Nat) (prec : Int) (w : World) (T : Tabs cb co w) (hx : x < 18446744073709551616) (p0 : -1 ≤ prec) (p1 : prec ≤ 20) :
    Calls Tryd.prog 26 #[.float .f64 x, .int .u8 102, .int .i64 prec, .int .i64 64] w fun e w' => e = .returned (.string ⟨(ftoaF x prec).toArray⟩) ∧ Below w.heap.size w w' := by
  have hf := format_inner cb co x prec w T hx p0 p1
  clear T
  go_enter Tryd.func26, Tryd.ntmps26
  go_wp2_with fail
  refine hf.mono ?_
  rintro e w2 ⟨rfl, hB2⟩
  go_wp2
  go_ret
  exact ⟨rfl, hB2⟩
end Go.Proofs.YtodihpaabkplhaaDoor
