/- spec.places: places in brackets, or EMPTY. spec.body: what stands behind a geometry's name. -/
import Derived.Test.YtodihpaabkplhaaDoorFlw
import Derived.Test.YtodihpaabkplhaaDoorLpt
import Derived.Test.YtodihpaabkplhaaDoorPrs

namespace Go.Proofs.YtodihpaabkplhaaDoor
open Go.RowKit

/-- As spec.places writes: number for number. -/
def runB (xs : Nat → Nat) (d : Int) (s : Nat) : Nat → List UInt8
  | 0 => []
  | i + 1 => runB xs d s i ++ (if i = 0 then [] else if i % s = 0 then [44, 32] else [32]) ++ numB (xs i) d
theorem runB_length (xs : Nat → Nat) (d : Int) (s : Nat) (p0 : -1 ≤ d) (p1 : d ≤ 20) : ∀ i, (runB xs d s i).length ≤ i * 20005
  | 0 => Nat.le_refl _
  | i + 1 => by
    have h1 := runB_length xs d s p0 p1 i
    have h2 := numB_length (xs i) d p0 p1
    have h3 : (if i = 0 then ([] : List UInt8) else if i % s = 0 then [44, 32] else [32]).length ≤ 2 := by
      split
      · exact Nat.zero_le _
      · split
        · exact Nat.le_refl _
        · exact Nat.le_succ _
    rw [runB, List.length_append, List.length_append]
    omega
theorem runB_step (xs : Nat → Nat) (d : Int) (s q r : Nat) (hs : r + 1 ≤ s) (h : runB xs d s (q * s + r) = joinB (placeB xs d s) q ++ (if r = 0 then [] else sepB q ++ coordB (fun j => xs (q * s + j)) d r)) :
    runB xs d s (q * s + (r + 1)) = joinB (placeB xs d s) q ++ (sepB q ++ coordB (fun j => xs (q * s + j)) d (r + 1)) := by
  rw [← Nat.add_assoc, runB, h, coordB]
  by_cases h0 : r = 0
  · subst h0
    rw [if_pos rfl, if_pos rfl, Nat.add_zero, Nat.mul_mod_left, if_pos rfl]
    have h1 : (if q * s = 0 then ([] : List UInt8) else [44, 32]) = sepB q := by
      unfold sepB
      by_cases hq : q = 0
      · subst hq; rw [Nat.zero_mul]
      · have : q * s ≠ 0 := fun h => by
          rcases Nat.mul_eq_zero.1 h with h | h
          · exact hq h
          · omega
        rw [if_neg this, if_neg hq]
    rw [h1]
    simp [coordB]
  · have hm : (q * s + r) % s = r := by
      rw [Nat.add_comm, Nat.add_mul_mod_self_right]
      exact Nat.mod_eq_of_lt (by omega)
    rw [if_neg h0, if_neg (by omega), hm, if_neg h0, if_neg h0]
    simp [List.append_assoc]
theorem runB_eq (xs : Nat → Nat) (d : Int) (s : Nat) (hs : 1 ≤ s) (q : Nat) : ∀ r, r ≤ s → runB xs d s (q * s + r) = joinB (placeB xs d s) q ++ (if r = 0 then [] else sepB q ++ coordB (fun j => xs (q * s + j)) d r) := by
  induction q with
  | zero =>
    intro r
    induction r with
    | zero => intro _; rw [Nat.zero_mul]; rfl
    | succ r ih => intro hr; rw [runB_step xs d s 0 r hr (ih (by omega)), if_neg (by omega)]
  | succ q ihq =>
    intro r
    induction r with
    | zero =>
      intro _
      rw [Nat.add_zero, Nat.succ_mul, ihq s (Nat.le_refl _), if_neg (by omega), if_pos rfl, List.append_nil, joinB, placeB, List.append_assoc]
    | succ r ih => intro hr; rw [runB_step xs d s (q + 1) r hr (ih (by omega)), if_neg (by omega)]
theorem runB_places (xs : Nat → Nat) (d : Int) (s : Nat) (hs : 1 ≤ s) (k : Nat) : runB xs d s (k * s) = joinB (placeB xs d s) k := by
  have h := runB_eq xs d s hs k 0 (by omega)
  rw [if_pos rfl, List.append_nil, Nat.add_zero] at h
  exact h
theorem str41p (f : Nat → List UInt8) (k : Nat) : str ([40] ++ joinB f k) ++ (⟨#[41]⟩ : ByteArray) = str (brackB f k) := str_append _ [41]
/-- What spec.places writes. -/
def placesT (xs : Nat → Nat) (d : Int) (s n : Nat) : List UInt8 := if n = 0 then emptyB else [40] ++ runB xs d s n ++ [41]
theorem placesT_line (xs : Nat → Nat) (d : Int) (s a b : Nat) (hs : 1 ≤ s) (hm : (b - a) % s = 0) : placesT (fun j => xs (a + j)) d s (b - a) = lineB xs d s a b := by
  unfold placesT lineB
  by_cases h : b ≤ a
  · rw [if_pos h, if_pos (by omega)]
  · rw [if_neg h, if_neg (by omega), flatB, brackB]
    have hd : b - a = (b - a) / s * s := by
      have := Nat.div_add_mod (b - a) s
      rw [hm, Nat.add_zero, Nat.mul_comm] at this
      exact this.symm
    rw [← runB_places _ d s hs, ← hd]
theorem placesT_length (xs : Nat → Nat) (d : Int) (s n : Nat) (p0 : -1 ≤ d) (p1 : d ≤ 20) : (placesT xs d s n).length ≤ n * 20005 + 5 := by
  unfold placesT
  split
  · rw [emptyB_length]; omega
  · have := runB_length xs d s p0 p1 n
    rw [List.length_append, List.length_append, List.length_singleton, List.length_singleton]
    omega

set_option maxRecDepth 100000 in
set_option maxHeartbeats 1600000 in
theorem places_any (cb co n s cap : Nat) (ao : Option Addr) (xs : Nat → Nat) (d : Int) (w : World) (T : Tabs cb co w) (hr : FRowO w ao n xs) (hs : 1 ≤ s) (hs9 : s ≤ 9) (hn : n ≤ 2000) (p0 : -1 ≤ d) (p1 : d ≤ 20) :
    Calls Tryd.prog 54 #[.slice ao n cap, .int .i64 s, .int .i64 d] w fun e w' => e = .returned (.string (str (placesT xs d s n))) ∧ Below w.heap.size w w' := by
  by_cases hn0 : n = 0
  · have hn0' : ((n : Int) == 0) = true := by rw [hn0]; rfl
    have he : str (placesT xs d s n) = ⟨#[69, 77, 80, 84, 89]⟩ := by rw [placesT, if_pos hn0]; rfl
    have HE := Lib.hid he
    clear T hr he hn0
    go_enter Tryd.func54, Tryd.ntmps54
    go_wp2_with fail
    go_ret
    exact ⟨by rw [HE.out]; rfl, Below.refl _ _⟩
  · have hn0' : ((n : Int) == 0) = false := by rw [beq_eq_false_iff_ne]; omega
    obtain ⟨blk, off, rfl, hx⟩ := hr (by omega)
    have he : str (placesT xs d s n) = str ([40] ++ runB xs d s n ++ [41]) := by rw [placesT, if_neg hn0]
    have HE := Lib.hid he
    have HT := Lib.hid T
    have HX := Lib.hid hx
    have hs0 : ¬ s = 0 := by omega
    have hsI : (s : Int) ≤ 9 := by omega
    clear T hr he hx hn0
    go_enter Tryd.func54, Tryd.ntmps54
    go_wp2_with fail
    go_loopg [15, 7] n (fun m v15 v7 wr => ∃ i : Nat, i + m = n ∧ v15 = .int .i64 i ∧ v7 = .string (str ([40] ++ runB xs d s i)) ∧ Below w.heap.size w wr)
    case atStart => exact ⟨0, by omega, rfl, rfl, Below.refl _ _⟩
    case round =>
    obtain ⟨i, hi, rfl, rfl, hB⟩ := hrel
    have hl1 := runB_length xs d s p0 p1 i
    have hi9 : i * 20005 ≤ 40010000 := by omega
    have hiI : (i : Int) ≤ 2000 := by omega
    cases gk with
    | zero =>
      have hin : i = n := by omega
      subst hin
      have hst : str ([40] ++ runB xs d s i) ++ (⟨#[41]⟩ : ByteArray) = str ([40] ++ runB xs d s i ++ [41]) := str_append _ [41]
      have hz : ¬ 9223372036854775807 < (str ([40] ++ runB xs d s i)).size + 1 := by rw [str_size, List.length_append, List.length_singleton]; omega
      obtain ⟨A, hA⟩ : ∃ A, str ([40] ++ runB xs d s i) = A := ⟨_, rfl⟩
      obtain ⟨R, hR⟩ : ∃ R, str ([40] ++ runB xs d s i ++ [41]) = R := ⟨_, rfl⟩
      rw [hA, hR] at hst
      rw [hA] at hz
      rw [hA]
      have HR := Lib.hid hR
      clear hA hR hl1
      go_wp2_with fail
      go_ret
      exact ⟨by rw [HE.out, HR.out]; rfl, hB⟩
    | succ m =>
      have cx := FRow.cell HX.out hB (show i < n by omega)
      have hx64 := (HX.out i (by omega)).2
      obtain ⟨x, hx⟩ : ∃ x, xs i = x := ⟨_, rfl⟩
      rw [hx] at cx hx64
      have hc1 : runB xs d s (i + 1) = runB xs d s i ++ (if i = 0 then [] else if i % s = 0 then [44, 32] else [32]) ++ numB x d := by rw [runB, hx]
      have HC := Lib.hid hc1
      have hwn := writeNumber_any cb co x d wr (HT.out.below hB) hx64 p0 p1
      rw [← numB_str] at hwn
      have hin : (i : Int) < n := by omega
      have hl2 := numB_length x d p0 p1
      clear hc1 hx
      by_cases h0 : i = 0
      · subst h0
        have hst : str ([40] ++ runB xs d s 0) ++ str (numB x d) = str ([40] ++ runB xs d s (0 + 1)) := by
          rw [str_append, HC.out]
          rfl
        have hz : ¬ 9223372036854775807 < (str ([40] ++ runB xs d s 0)).size + (str (numB x d)).size := by rw [str_size, str_size, List.length_append, List.length_singleton]; omega
        obtain ⟨A, hA⟩ : ∃ A, str ([40] ++ runB xs d s 0) = A := ⟨_, rfl⟩
        obtain ⟨N, hN⟩ : ∃ N, str (numB x d) = N := ⟨_, rfl⟩
        obtain ⟨R, hR⟩ : ∃ R, str ([40] ++ runB xs d s (0 + 1)) = R := ⟨_, rfl⟩
        rw [hA, hN, hR] at hst
        rw [hA, hN] at hz
        rw [hN] at hwn
        rw [hA]
        have HRR := Lib.hid hR
        rw [Nat.add_zero] at cx
        clear hl1 hl2 hA hN hR
        have z0 : ((0 : Nat) : Int) = 0 := rfl
        rw [z0]
        clear z0
        go_wp2_with fail
        refine hwn.mono ?_
        rintro en2 w2 ⟨rfl, hB2⟩
        clear hwn
        go_wp2_with fail
        go_roundg m
        case measure => omega
        case rel => exact ⟨1, by omega, rfl, by rw [HRR.out], hB.trans (hB2.mono hB.size)⟩
      · have h0' : ((i : Int) == 0) = false := by rw [beq_eq_false_iff_ne]; omega
        by_cases hm : i % s = 0
        · have hm' : ((i : Int) % (s : Int) == 0) = true := by rw [← Int.natCast_emod, hm]; rfl
          have hst : str ([40] ++ runB xs d s i) ++ str [44, 32] ++ str (numB x d) = str ([40] ++ runB xs d s (i + 1)) := by
            rw [str_append, str_append, HC.out, if_neg h0, if_pos hm]
            simp [List.append_assoc]
          have hz1 : ¬ 9223372036854775807 < (str ([40] ++ runB xs d s i)).size + 2 := by rw [str_size, List.length_append, List.length_singleton]; omega
          have hz2 : ¬ 9223372036854775807 < (str ([40] ++ runB xs d s i) ++ str [44, 32]).size + (str (numB x d)).size := by rw [str_append, str_size, str_size, List.length_append, List.length_append, List.length_singleton]; simp; omega
          change str ([40] ++ runB xs d s i) ++ (⟨#[44, 32]⟩ : ByteArray) ++ _ = _ at hst
          obtain ⟨A, hA⟩ : ∃ A, str ([40] ++ runB xs d s i) = A := ⟨_, rfl⟩
          obtain ⟨N, hN⟩ : ∃ N, str (numB x d) = N := ⟨_, rfl⟩
          obtain ⟨R, hR⟩ : ∃ R, str ([40] ++ runB xs d s (i + 1)) = R := ⟨_, rfl⟩
          obtain ⟨A2, hA2⟩ : ∃ A2, A ++ (⟨#[44, 32]⟩ : ByteArray) = A2 := ⟨_, rfl⟩
          change ¬ 9223372036854775807 < (str ([40] ++ runB xs d s i) ++ (⟨#[44, 32]⟩ : ByteArray)).size + _ at hz2
          rw [hA, hN, hR, hA2] at hst
          rw [hA] at hz1
          rw [hA, hN, hA2] at hz2
          rw [hN] at hwn
          rw [hA]
          have HRR := Lib.hid hR
          clear hl1 hl2 hA hN hR h0 hm
          go_wp2_with fail
          refine hwn.mono ?_
          rintro en2 w2 ⟨rfl, hB2⟩
          clear hwn
          go_wp2_with fail
          go_roundg m
          case measure => omega
          case rel => exact ⟨i + 1, by omega, rfl, by rw [HRR.out], hB.trans (hB2.mono hB.size)⟩
        · have hm' : ((i : Int) % (s : Int) == 0) = false := by rw [← Int.natCast_emod, beq_eq_false_iff_ne]; omega
          have hst : str ([40] ++ runB xs d s i) ++ str [32] ++ str (numB x d) = str ([40] ++ runB xs d s (i + 1)) := by
            rw [str_append, str_append, HC.out, if_neg h0, if_neg hm]
            simp [List.append_assoc]
          have hz1 : ¬ 9223372036854775807 < (str ([40] ++ runB xs d s i)).size + 1 := by rw [str_size, List.length_append, List.length_singleton]; omega
          have hz2 : ¬ 9223372036854775807 < (str ([40] ++ runB xs d s i) ++ str [32]).size + (str (numB x d)).size := by rw [str_append, str_size, str_size, List.length_append, List.length_append, List.length_singleton]; simp; omega
          change str ([40] ++ runB xs d s i) ++ (⟨#[32]⟩ : ByteArray) ++ _ = _ at hst
          obtain ⟨A, hA⟩ : ∃ A, str ([40] ++ runB xs d s i) = A := ⟨_, rfl⟩
          obtain ⟨N, hN⟩ : ∃ N, str (numB x d) = N := ⟨_, rfl⟩
          obtain ⟨R, hR⟩ : ∃ R, str ([40] ++ runB xs d s (i + 1)) = R := ⟨_, rfl⟩
          obtain ⟨A2, hA2⟩ : ∃ A2, A ++ (⟨#[32]⟩ : ByteArray) = A2 := ⟨_, rfl⟩
          change ¬ 9223372036854775807 < (str ([40] ++ runB xs d s i) ++ (⟨#[32]⟩ : ByteArray)).size + _ at hz2
          rw [hA, hN, hR, hA2] at hst
          rw [hA] at hz1
          rw [hA, hN, hA2] at hz2
          rw [hN] at hwn
          rw [hA]
          have HRR := Lib.hid hR
          clear hl1 hl2 hA hN hR h0 hm
          go_wp2_with fail
          refine hwn.mono ?_
          rintro en2 w2 ⟨rfl, hB2⟩
          clear hwn
          go_wp2_with fail
          go_roundg m
          case measure => omega
          case rel => exact ⟨i + 1, by omega, rfl, by rw [HRR.out], hB.trans (hB2.mono hB.size)⟩
end Go.Proofs.YtodihpaabkplhaaDoor

namespace Go.Proofs.YtodihpaabkplhaaDoor
open Go.RowKit

/-- What spec.body hands back. -/
def BodyOut (l : List UInt8) (w : World) (e : Ending) (w' : World) : Prop := e = .returned (.tuple #[.string (str l), .bool true]) ∧ Below w.heap.size w w'

set_option maxRecDepth 100000 in
set_option maxHeartbeats 1600000 in
theorem body_leaf (k l : Int) (cb co m fp s een ep : Nat) (fo eo : Option Addr) (wh : Bool) (ys : Nat → Nat) (d : Int) (w : World) (hk : k = 1 ∨ k = 2 ∨ k = 8) (T : Tabs cb co w) (hr : FRowO w fo m ys) (hs : 1 ≤ s) (hs9 : s ≤ 9) (hm : m ≤ 2000) (p0 : -1 ≤ d) (p1 : d ≤ 20) :
    Calls Tryd.prog 35 #[geomV k l 0 (.slice fo m fp) (.slice eo een ep) (.slice none 0 0) (.slice none 0 0), .int .i64 s, .int .i64 d, .bool wh] w (BodyOut (placesT ys d s m) w) := by
  obtain ⟨hbx, hB⟩ := boxed w k l 0 (.slice fo m fp) (.slice eo een ep) (.slice none 0 0) (.slice none 0 0)
  have hps := parts_any (sr := 0) k l fo eo none none m fp een ep 0 0 0 0 ⟨0, fun _ => 0, fun _ _ => 0, fun _ => 0, fun _ _ => 0⟩ 0 (w.alloc (.cells #[.int .i64 k, .int .i64 l, .int .i64 0, .slice fo m fp, .slice eo een ep, .slice none 0 0, .slice none 0 0] 33)) (by omega) (fun w' => numParts_leaf (sr := 0) k l _ _ _ w' hk) (fun i w' hi _ => absurd hi (by omega))
  have HT := Lib.hid T
  have HR := Lib.hid hr
  clear T hr
  unfold geomV at hps ⊢
  rcases hk with rfl | rfl | rfl
  all_goals
    go_enter Tryd.func35, Tryd.ntmps35
    go_wp2_with fail
    refine hps.mono ?_
    rintro en1 w1 ⟨v, P, rfl, _, _, hB1⟩
    have hbx1 := hbx.below hB1
    have hBw := hB.trans (hB1.mono hB.size)
    have hpl := places_any cb co m s fp fo ys d w1 (HT.out.below hBw) (HR.out.below hBw) hs hs9 hm p0 p1
    obtain ⟨c0, c1, c2, c3, c4, c5, c6⟩ := hbx1.cells7
    clear hps hbx hbx1 hB hB1
    go_wp2_with fail
    refine hpl.mono ?_
    rintro en2 w2 ⟨rfl, hB2⟩
    clear hpl
    go_wp2_with fail
    go_ret2
    exact ⟨rfl, hBw.trans (hB2.mono hBw.size)⟩

theorem part_row {w wr : World} {B n g c i : Nat} {P : Nat → Array Value} (h : w.ownsRow B 33 7 (.slice (some ⟨g, 0, none⟩) n c) n (partsL P n)) (hP : ∀ j, j < n → (P j).size = 7) (hi : i < n) (hb : Below w.heap.size w wr) (j : Nat) (hj : j < 7) (v : Value) (hv : (P i)[j]? = some v) : wr.cell? ⟨g, i * 7 + j, none⟩ = some v := by
  refine cell_kept hb ?_
  rw [h.cellAt (i * 7 + j) (by omega), partsL_get P i j hj n hP hi]
  exact hv
theorem own_slice7 {w : World} {B n : Nat} {v : Value} {xs : List Value} (h : OwnV w B 33 7 v n xs) (hn : 0 < n) : ∃ g c, v = .slice (some ⟨g, 0, none⟩) n c := by
  rcases h.2 with ⟨_, h0⟩ | ⟨g, cap, _, hv, _⟩
  · omega
  · exact ⟨g, cap, hv⟩

set_option maxRecDepth 100000 in
set_option maxHeartbeats 3200000 in
theorem body_parts5 (l : Int) (s n : Nat) (fa ea sa : Option Addr) (fn fc en ec sn sc : Nat) (wh : Bool) (d : Int) (sp : PartSpec) (f : Nat → List UInt8) (w : World) (hn : 0 < n) (hn9 : n ≤ 100000)
    (hps : ∀ w', Below w.heap.size w w' → Calls Tryd.prog 24 #[geomV 5 l 0 (.slice fa fn fc) (.slice ea en ec) (.slice sa sn sc) (.slice none 0 0)] w' (PartsOut l sp n w'))
    (hbd : ∀ i w' cs, i < n → Below w.heap.size w w' → PartV w' sp.k l (sp.m i) (sp.ys i) (sp.en i) (sp.es i) cs → Calls Tryd.prog 35 #[.agg cs, .int .i64 s, .int .i64 d, .bool false] w' (BodyOut (f i) w'))
    (hlen : ∀ q, q ≤ n → (joinB f q).length ≤ 1000000000) (hlf : ∀ i, i < n → (f i).length ≤ 1000000000) :
    Calls Tryd.prog 35 #[geomV 5 l 0 (.slice fa fn fc) (.slice ea en ec) (.slice sa sn sc) (.slice none 0 0), .int .i64 s, .int .i64 d, .bool wh] w (BodyOut (brackB f n) w) := by
  obtain ⟨hbx, hB⟩ := boxed w 5 l 0 (.slice fa fn fc) (.slice ea en ec) (.slice sa sn sc) (.slice none 0 0)
  have hps := hps _ hB
  have HBD := Lib.hid hbd
  have HLEN := Lib.hid hlen
  have HLF := Lib.hid hlf
  have hnI : (n : Int) ≤ 100000 := by omega
  have hn0 : ((n : Int) == 0) = false := by rw [beq_eq_false_iff_ne]; omega
  clear hbd hlen hlf
  unfold geomV at hps ⊢
  go_enter Tryd.func35, Tryd.ntmps35
  go_wp2_with fail
  refine hps.mono ?_
  rintro en1 w1 ⟨v, P, rfl, hown, hok, hB1⟩
  clear hps
  have hbx1 := hbx.below hB1
  have hBw := hB.trans (hB1.mono hB.size)
  obtain ⟨g, c, rfl⟩ := own_slice7 hown hn
  obtain ⟨c0, c1, c2, c3, c4, c5, c6⟩ := hbx1.cells7
  have HOK := Lib.hid hok
  have hPs : ∀ j, j < n → (P j).size = 7 := fun j hj => (hok j hj).size
  have HPS := Lib.hid hPs
  have hown1 : w1.ownsRow _ 33 7 (.slice (some ⟨g, 0, none⟩) n c) n (partsL P n) := hown
  have HOWN := Lib.hid hown1
  have HBX := Lib.hid hbx1
  clear hB hB1 hbx hbx1 hok hPs hown hown1
  go_wp2_with fail
  go_loopg [55, 11, 9] n (fun m v55 v11 v9 wr => ∃ q : Nat, q + m = n ∧ v55 = .int .i64 (q : Int) ∧ v11 = .string (str ([40] ++ joinB f q)) ∧ v9 = .bool true ∧ Below w1.heap.size w1 wr)
  case atStart => exact ⟨0, by omega, rfl, rfl, rfl, Below.refl _ _⟩
  case round =>
    clear c0 c1 c2 c3 c4 c5 c6
    obtain ⟨q, hq, rfl, rfl, rfl, hB⟩ := hrel
    have hBB : Below w.heap.size w wr := hBw.trans (hB.mono hBw.size)
    have hl1 := HLEN.out q (by omega)
    cases gk with
    | zero =>
      have hqn : q = n := by omega
      subst hqn
      have hst := str41p f q
      have hz : ¬ 9223372036854775807 < (str ([40] ++ joinB f q)).size + 1 := by rw [str_size, List.length_append, List.length_singleton]; omega
      obtain ⟨L, hL⟩ : ∃ L, str ([40] ++ joinB f q) = L := ⟨_, rfl⟩
      obtain ⟨R, hR⟩ : ∃ R, str (brackB f q) = R := ⟨_, rfl⟩
      rw [hL, hR] at hst
      rw [hL] at hz
      rw [hL]
      have HRR := Lib.hid hR
      clear hL hR hl1
      go_wp2_with fail
      go_ret2
      exact ⟨by rw [HRR.out]; rfl, hBB⟩
    | succ m =>
      have hqn : (q : Int) < (n : Int) := by omega
      obtain ⟨fo, fp, eo, ep, hcs, _⟩ := HOK.out q (by omega)
      have hrow := fun j hj v hv => part_row HOWN.out HPS.out (show q < n by omega) hB j hj v hv
      rw [hcs] at hrow
      have r0 := hrow 0 (by decide) _ rfl
      have r1 := hrow 1 (by decide) _ rfl
      have r2 := hrow 2 (by decide) _ rfl
      have r3 := hrow 3 (by decide) _ rfl
      have r4 := hrow 4 (by decide) _ rfl
      have r5 := hrow 5 (by decide) _ rfl
      have r6 := hrow 6 (by decide) _ rfl
      rw [Nat.add_zero] at r0
      obtain ⟨c0, c1, c2, c3, c4, c5, c6⟩ := (HBX.out.below hB).cells7
      have hBA : Below w.heap.size w (wr.alloc (.cells #[.int .i64 sp.k, .int .i64 l, .int .i64 0, .slice fo (sp.m q) fp, .slice eo (sp.en q) ep, .slice none 0 0, .slice none 0 0] 33)) := hBB.alloc hBB.size _
      have hBA1 : Below w1.heap.size w1 (wr.alloc (.cells #[.int .i64 sp.k, .int .i64 l, .int .i64 0, .slice fo (sp.m q) fp, .slice eo (sp.en q) ep, .slice none 0 0, .slice none 0 0] 33)) := hB.alloc hB.size _
      have hbody := HBD.out q _ _ (by omega) hBA (by have h := (HOK.out q (by omega)).below hBA1; rw [hcs] at h; exact h)
      have hBox := (boxed wr sp.k l 0 (.slice fo (sp.m q) fp) (.slice eo (sp.en q) ep) (.slice none 0 0) (.slice none 0 0)).1
      have q0 := fun o => cell_kept ((Below.refl wr.heap.size wr).alloc (Nat.le_refl _) o) c0
      have hl2 := HLF.out q (by omega)
      have hj1 : joinB f (q + 1) = joinB f q ++ sepB q ++ f q := rfl
      have HJ1 := Lib.hid hj1
      clear hrow hcs hj1
      by_cases h0 : q = 0
      · subst h0
        have hst : str ([40] ++ joinB f 0) ++ str (f 0) = str ([40] ++ joinB f (0 + 1)) := by rw [str_append, HJ1.out]; rfl
        have hz : ¬ 9223372036854775807 < (str ([40] ++ joinB f 0)).size + (str (f 0)).size := by rw [str_size, str_size, List.length_append, List.length_singleton]; omega
        unfold BodyOut at hbody
        obtain ⟨L, hL⟩ : ∃ L, str ([40] ++ joinB f 0) = L := ⟨_, rfl⟩
        obtain ⟨F, hF⟩ : ∃ F, str (f 0) = F := ⟨_, rfl⟩
        obtain ⟨R, hR⟩ : ∃ R, str ([40] ++ joinB f (0 + 1)) = R := ⟨_, rfl⟩
        rw [hL, hF, hR] at hst
        rw [hL, hF] at hz
        rw [hF] at hbody
        rw [hL]
        have HRR := Lib.hid hR
        have z0 : ((0 : Nat) : Int) = 0 := rfl
        rw [z0]
        rw [Nat.zero_mul] at r0 r1 r2 r3 r4 r5 r6
        clear hL hF hR hl1 hl2 z0
        go_wp2_with fail
        refine hbody.mono ?_
        rintro en2 w2 ⟨rfl, hB2⟩
        clear hbody r0 r1 r2 r3 r4 r5 r6 c0 c1 c2 c3 c4 c5 c6 q0
        go_wp2_with fail
        go_roundg m
        case measure => omega
        case rel => exact ⟨1, by omega, rfl, by rw [HRR.out], rfl, hBA1.trans (hB2.mono hBA1.size)⟩
      · have h1 : (0 : Int) < (q : Int) := by omega
        have hst : str ([40] ++ joinB f q) ++ str [44, 32] ++ str (f q) = str ([40] ++ joinB f (q + 1)) := by
          rw [str_append, str_append, HJ1.out, sepB_pos h0]
          simp [List.append_assoc]
        have hz1 : ¬ 9223372036854775807 < (str ([40] ++ joinB f q)).size + 2 := by rw [str_size, List.length_append, List.length_singleton]; omega
        have hz2 : ¬ 9223372036854775807 < (str ([40] ++ joinB f q) ++ str [44, 32]).size + (str (f q)).size := by rw [str_append, str_size, str_size, List.length_append, List.length_append, List.length_singleton]; simp; omega
        change str ([40] ++ joinB f q) ++ (⟨#[44, 32]⟩ : ByteArray) ++ _ = _ at hst
        unfold BodyOut at hbody
        obtain ⟨L, hL⟩ : ∃ L, str ([40] ++ joinB f q) = L := ⟨_, rfl⟩
        obtain ⟨F, hF⟩ : ∃ F, str (f q) = F := ⟨_, rfl⟩
        obtain ⟨R, hR⟩ : ∃ R, str ([40] ++ joinB f (q + 1)) = R := ⟨_, rfl⟩
        obtain ⟨L2, hL2⟩ : ∃ L2, L ++ (⟨#[44, 32]⟩ : ByteArray) = L2 := ⟨_, rfl⟩
        change ¬ 9223372036854775807 < (str ([40] ++ joinB f q) ++ (⟨#[44, 32]⟩ : ByteArray)).size + _ at hz2
        rw [hL, hF, hR, hL2] at hst
        rw [hL] at hz1
        rw [hL, hF, hL2] at hz2
        rw [hF] at hbody
        rw [hL]
        have HRR := Lib.hid hR
        clear hL hF hR hl1 hl2 h0
        go_wp2_with fail
        refine hbody.mono ?_
        rintro en2 w2 ⟨rfl, hB2⟩
        clear hbody r0 r1 r2 r3 r4 r5 r6 c0 c1 c2 c3 c4 c5 c6 q0
        go_wp2_with fail
        go_roundg m
        case measure => omega
        case rel => exact ⟨q + 1, by omega, rfl, by rw [HRR.out], rfl, hBA1.trans (hB2.mono hBA1.size)⟩

end Go.Proofs.YtodihpaabkplhaaDoor
