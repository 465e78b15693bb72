/- spec.body of polygons. spec.Part at kind 3. spec.Part of a multi polygon. The law FnAreasText. -/
import Derived.Test.YtodihpaabkplhaaDoorBdy
import Derived.Test.YtodihpaabkplhaaDoorPrt
import Derived.Test.YtodihpaabkplhaaDoorPrs
import Derived.Test.YtodihpaabkplhaaDoorDfa
import Derived.Test.YtodihpaabkplhaaDoorWkt

namespace Go.Proofs.YtodihpaabkplhaaDoor
open Go.RowKit

set_option maxRecDepth 100000 in
set_option maxHeartbeats 3200000 in
theorem body_parts3 (l : Int) (s n : Nat) (fa ea sa : Option Addr) (fn fc en ec sn sc : Nat) (d : Int) (sp : PartSpec) (f : Nat → List UInt8) (w : World) (hn : 0 < n) (hfn : 0 < fn) (hn9 : n ≤ 100000)
    (hps : ∀ w', Below w.heap.size w w' → Calls Tryd.prog 24 #[geomV 3 l 0 (.slice fa fn fc) (.slice ea en ec) (.slice sa sn sc) (.slice none 0 0)] w' (PartsOut l sp n w'))
    (hbd : ∀ i w' cs, i < n → Below w.heap.size w w' → PartV w' sp.k l (sp.m i) (sp.ys i) (sp.en i) (sp.es i) cs → Calls Tryd.prog 35 #[.agg cs, .int .i64 s, .int .i64 d, .bool false] w' (BodyOut (f i) w'))
    (hlen : ∀ q, q ≤ n → (joinB f q).length ≤ 1000000000) (hlf : ∀ i, i < n → (f i).length ≤ 1000000000) :
    Calls Tryd.prog 35 #[geomV 3 l 0 (.slice fa fn fc) (.slice ea en ec) (.slice sa sn sc) (.slice none 0 0), .int .i64 s, .int .i64 d, .bool false] w (BodyOut (brackB f n) w) := by
  obtain ⟨hbx, hB⟩ := boxed w 3 l 0 (.slice fa fn fc) (.slice ea en ec) (.slice sa sn sc) (.slice none 0 0)
  have hps := hps _ hB
  have HBD := Lib.hid hbd
  have HLEN := Lib.hid hlen
  have HLF := Lib.hid hlf
  have hnI : (n : Int) ≤ 100000 := by omega
  have hn0 : ((n : Int) == 0) = false := by rw [beq_eq_false_iff_ne]; omega
  have hfn0 : ((fn : Int) == 0) = false := by rw [beq_eq_false_iff_ne]; omega
  clear hbd hlen hlf
  unfold geomV at hps ⊢
  go_enter Tryd.func35, Tryd.ntmps35
  go_wp2_with fail
  refine hps.mono ?_
  rintro en1 w1 ⟨v, P, rfl, hown, hok, hB1⟩
  clear hps
  have hbx1 := hbx.below hB1
  have hBw := hB.trans (hB1.mono hB.size)
  obtain ⟨g, c, rfl⟩ := own_slice7 hown hn
  obtain ⟨c0, c1, c2, c3, c4, c5, c6⟩ := hbx1.cells7
  have HOK := Lib.hid hok
  have hPs : ∀ j, j < n → (P j).size = 7 := fun j hj => (hok j hj).size
  have HPS := Lib.hid hPs
  have hown1 : w1.ownsRow _ 33 7 (.slice (some ⟨g, 0, none⟩) n c) n (partsL P n) := hown
  have HOWN := Lib.hid hown1
  have HBX := Lib.hid hbx1
  clear hB hB1 hbx hbx1 hok hPs hown hown1
  go_wp2_with fail
  go_loopg [55, 11, 9] n (fun m v55 v11 v9 wr => ∃ q : Nat, q + m = n ∧ v55 = .int .i64 (q : Int) ∧ v11 = .string (str ([40] ++ joinB f q)) ∧ v9 = .bool true ∧ Below w1.heap.size w1 wr)
  case atStart => exact ⟨0, by omega, rfl, rfl, rfl, Below.refl _ _⟩
  case round =>
    clear c0 c1 c2 c3 c4 c5 c6
    obtain ⟨q, hq, rfl, rfl, rfl, hB⟩ := hrel
    have hBB : Below w.heap.size w wr := hBw.trans (hB.mono hBw.size)
    have hl1 := HLEN.out q (by omega)
    cases gk with
    | zero =>
      have hqn : q = n := by omega
      subst hqn
      have hst := str41p f q
      have hz : ¬ 9223372036854775807 < (str ([40] ++ joinB f q)).size + 1 := by rw [str_size, List.length_append, List.length_singleton]; omega
      obtain ⟨L, hL⟩ : ∃ L, str ([40] ++ joinB f q) = L := ⟨_, rfl⟩
      obtain ⟨R, hR⟩ : ∃ R, str (brackB f q) = R := ⟨_, rfl⟩
      rw [hL, hR] at hst
      rw [hL] at hz
      rw [hL]
      have HRR := Lib.hid hR
      clear hL hR hl1
      go_wp2_with fail
      go_ret2
      exact ⟨by rw [HRR.out]; rfl, hBB⟩
    | succ m =>
      have hqn : (q : Int) < (n : Int) := by omega
      obtain ⟨fo, fp, eo, ep, hcs, _⟩ := HOK.out q (by omega)
      have hrow := fun j hj v hv => part_row HOWN.out HPS.out (show q < n by omega) hB j hj v hv
      rw [hcs] at hrow
      have r0 := hrow 0 (by decide) _ rfl
      have r1 := hrow 1 (by decide) _ rfl
      have r2 := hrow 2 (by decide) _ rfl
      have r3 := hrow 3 (by decide) _ rfl
      have r4 := hrow 4 (by decide) _ rfl
      have r5 := hrow 5 (by decide) _ rfl
      have r6 := hrow 6 (by decide) _ rfl
      rw [Nat.add_zero] at r0
      obtain ⟨c0, c1, c2, c3, c4, c5, c6⟩ := (HBX.out.below hB).cells7
      have hBA : Below w.heap.size w (wr.alloc (.cells #[.int .i64 sp.k, .int .i64 l, .int .i64 0, .slice fo (sp.m q) fp, .slice eo (sp.en q) ep, .slice none 0 0, .slice none 0 0] 33)) := hBB.alloc hBB.size _
      have hBA1 : Below w1.heap.size w1 (wr.alloc (.cells #[.int .i64 sp.k, .int .i64 l, .int .i64 0, .slice fo (sp.m q) fp, .slice eo (sp.en q) ep, .slice none 0 0, .slice none 0 0] 33)) := hB.alloc hB.size _
      have hbody := HBD.out q _ _ (by omega) hBA (by have h := (HOK.out q (by omega)).below hBA1; rw [hcs] at h; exact h)
      have hBox := (boxed wr sp.k l 0 (.slice fo (sp.m q) fp) (.slice eo (sp.en q) ep) (.slice none 0 0) (.slice none 0 0)).1
      have q0 := fun o => cell_kept ((Below.refl wr.heap.size wr).alloc (Nat.le_refl _) o) c0
      have hl2 := HLF.out q (by omega)
      have hj1 : joinB f (q + 1) = joinB f q ++ sepB q ++ f q := rfl
      have HJ1 := Lib.hid hj1
      clear hrow hcs hj1
      by_cases h0 : q = 0
      · subst h0
        have hst : str ([40] ++ joinB f 0) ++ str (f 0) = str ([40] ++ joinB f (0 + 1)) := by rw [str_append, HJ1.out]; rfl
        have hz : ¬ 9223372036854775807 < (str ([40] ++ joinB f 0)).size + (str (f 0)).size := by rw [str_size, str_size, List.length_append, List.length_singleton]; omega
        unfold BodyOut at hbody
        obtain ⟨L, hL⟩ : ∃ L, str ([40] ++ joinB f 0) = L := ⟨_, rfl⟩
        obtain ⟨F, hF⟩ : ∃ F, str (f 0) = F := ⟨_, rfl⟩
        obtain ⟨R, hR⟩ : ∃ R, str ([40] ++ joinB f (0 + 1)) = R := ⟨_, rfl⟩
        rw [hL, hF, hR] at hst
        rw [hL, hF] at hz
        rw [hF] at hbody
        rw [hL]
        have HRR := Lib.hid hR
        have z0 : ((0 : Nat) : Int) = 0 := rfl
        rw [z0]
        rw [Nat.zero_mul] at r0 r1 r2 r3 r4 r5 r6
        clear hL hF hR hl1 hl2 z0
        go_wp2_with fail
        refine hbody.mono ?_
        rintro en2 w2 ⟨rfl, hB2⟩
        clear hbody r0 r1 r2 r3 r4 r5 r6 c0 c1 c2 c3 c4 c5 c6 q0
        go_wp2_with fail
        go_roundg m
        case measure => omega
        case rel => exact ⟨1, by omega, rfl, by rw [HRR.out], rfl, hBA1.trans (hB2.mono hBA1.size)⟩
      · have h1 : (0 : Int) < (q : Int) := by omega
        have hst : str ([40] ++ joinB f q) ++ str [44, 32] ++ str (f q) = str ([40] ++ joinB f (q + 1)) := by
          rw [str_append, str_append, HJ1.out, sepB_pos h0]
          simp [List.append_assoc]
        have hz1 : ¬ 9223372036854775807 < (str ([40] ++ joinB f q)).size + 2 := by rw [str_size, List.length_append, List.length_singleton]; omega
        have hz2 : ¬ 9223372036854775807 < (str ([40] ++ joinB f q) ++ str [44, 32]).size + (str (f q)).size := by rw [str_append, str_size, str_size, List.length_append, List.length_append, List.length_singleton]; simp; omega
        change str ([40] ++ joinB f q) ++ (⟨#[44, 32]⟩ : ByteArray) ++ _ = _ at hst
        unfold BodyOut at hbody
        obtain ⟨L, hL⟩ : ∃ L, str ([40] ++ joinB f q) = L := ⟨_, rfl⟩
        obtain ⟨F, hF⟩ : ∃ F, str (f q) = F := ⟨_, rfl⟩
        obtain ⟨R, hR⟩ : ∃ R, str ([40] ++ joinB f (q + 1)) = R := ⟨_, rfl⟩
        obtain ⟨L2, hL2⟩ : ∃ L2, L ++ (⟨#[44, 32]⟩ : ByteArray) = L2 := ⟨_, rfl⟩
        change ¬ 9223372036854775807 < (str ([40] ++ joinB f q) ++ (⟨#[44, 32]⟩ : ByteArray)).size + _ at hz2
        rw [hL, hF, hR, hL2] at hst
        rw [hL] at hz1
        rw [hL, hF, hL2] at hz2
        rw [hF] at hbody
        rw [hL]
        have HRR := Lib.hid hR
        clear hL hF hR hl1 hl2 h0
        go_wp2_with fail
        refine hbody.mono ?_
        rintro en2 w2 ⟨rfl, hB2⟩
        clear hbody r0 r1 r2 r3 r4 r5 r6 c0 c1 c2 c3 c4 c5 c6 q0
        go_wp2_with fail
        go_roundg m
        case measure => omega
        case rel => exact ⟨q + 1, by omega, rfl, by rw [HRR.out], rfl, hBA1.trans (hB2.mono hBA1.size)⟩

set_option maxRecDepth 100000 in
set_option maxHeartbeats 3200000 in
theorem body_parts6 (l : Int) (s n : Nat) (fa ea sa : Option Addr) (fn fc en ec sn sc : Nat) (wh : Bool) (d : Int) (sp : PartSpec) (f : Nat → List UInt8) (w : World) (hn : 0 < n) (hn9 : n ≤ 100000)
    (hps : ∀ w', Below w.heap.size w w' → Calls Tryd.prog 24 #[geomV 6 l 0 (.slice fa fn fc) (.slice ea en ec) (.slice sa sn sc) (.slice none 0 0)] w' (PartsOut l sp n w'))
    (hbd : ∀ i w' cs, i < n → Below w.heap.size w w' → PartV w' sp.k l (sp.m i) (sp.ys i) (sp.en i) (sp.es i) cs → Calls Tryd.prog 35 #[.agg cs, .int .i64 s, .int .i64 d, .bool false] w' (BodyOut (f i) w'))
    (hlen : ∀ q, q ≤ n → (joinB f q).length ≤ 1000000000) (hlf : ∀ i, i < n → (f i).length ≤ 1000000000) :
    Calls Tryd.prog 35 #[geomV 6 l 0 (.slice fa fn fc) (.slice ea en ec) (.slice sa sn sc) (.slice none 0 0), .int .i64 s, .int .i64 d, .bool wh] w (BodyOut (brackB f n) w) := by
  obtain ⟨hbx, hB⟩ := boxed w 6 l 0 (.slice fa fn fc) (.slice ea en ec) (.slice sa sn sc) (.slice none 0 0)
  have hps := hps _ hB
  have HBD := Lib.hid hbd
  have HLEN := Lib.hid hlen
  have HLF := Lib.hid hlf
  have hnI : (n : Int) ≤ 100000 := by omega
  have hn0 : ((n : Int) == 0) = false := by rw [beq_eq_false_iff_ne]; omega
  clear hbd hlen hlf
  unfold geomV at hps ⊢
  go_enter Tryd.func35, Tryd.ntmps35
  go_wp2_with fail
  refine hps.mono ?_
  rintro en1 w1 ⟨v, P, rfl, hown, hok, hB1⟩
  clear hps
  have hbx1 := hbx.below hB1
  have hBw := hB.trans (hB1.mono hB.size)
  obtain ⟨g, c, rfl⟩ := own_slice7 hown hn
  obtain ⟨c0, c1, c2, c3, c4, c5, c6⟩ := hbx1.cells7
  have HOK := Lib.hid hok
  have hPs : ∀ j, j < n → (P j).size = 7 := fun j hj => (hok j hj).size
  have HPS := Lib.hid hPs
  have hown1 : w1.ownsRow _ 33 7 (.slice (some ⟨g, 0, none⟩) n c) n (partsL P n) := hown
  have HOWN := Lib.hid hown1
  have HBX := Lib.hid hbx1
  clear hB hB1 hbx hbx1 hok hPs hown hown1
  go_wp2_with fail
  go_loopg [55, 11, 9] n (fun m v55 v11 v9 wr => ∃ q : Nat, q + m = n ∧ v55 = .int .i64 (q : Int) ∧ v11 = .string (str ([40] ++ joinB f q)) ∧ v9 = .bool true ∧ Below w1.heap.size w1 wr)
  case atStart => exact ⟨0, by omega, rfl, rfl, rfl, Below.refl _ _⟩
  case round =>
    clear c0 c1 c2 c3 c4 c5 c6
    obtain ⟨q, hq, rfl, rfl, rfl, hB⟩ := hrel
    have hBB : Below w.heap.size w wr := hBw.trans (hB.mono hBw.size)
    have hl1 := HLEN.out q (by omega)
    cases gk with
    | zero =>
      have hqn : q = n := by omega
      subst hqn
      have hst := str41p f q
      have hz : ¬ 9223372036854775807 < (str ([40] ++ joinB f q)).size + 1 := by rw [str_size, List.length_append, List.length_singleton]; omega
      obtain ⟨L, hL⟩ : ∃ L, str ([40] ++ joinB f q) = L := ⟨_, rfl⟩
      obtain ⟨R, hR⟩ : ∃ R, str (brackB f q) = R := ⟨_, rfl⟩
      rw [hL, hR] at hst
      rw [hL] at hz
      rw [hL]
      have HRR := Lib.hid hR
      clear hL hR hl1
      go_wp2_with fail
      go_ret2
      exact ⟨by rw [HRR.out]; rfl, hBB⟩
    | succ m =>
      have hqn : (q : Int) < (n : Int) := by omega
      obtain ⟨fo, fp, eo, ep, hcs, _⟩ := HOK.out q (by omega)
      have hrow := fun j hj v hv => part_row HOWN.out HPS.out (show q < n by omega) hB j hj v hv
      rw [hcs] at hrow
      have r0 := hrow 0 (by decide) _ rfl
      have r1 := hrow 1 (by decide) _ rfl
      have r2 := hrow 2 (by decide) _ rfl
      have r3 := hrow 3 (by decide) _ rfl
      have r4 := hrow 4 (by decide) _ rfl
      have r5 := hrow 5 (by decide) _ rfl
      have r6 := hrow 6 (by decide) _ rfl
      rw [Nat.add_zero] at r0
      obtain ⟨c0, c1, c2, c3, c4, c5, c6⟩ := (HBX.out.below hB).cells7
      have hBA : Below w.heap.size w (wr.alloc (.cells #[.int .i64 sp.k, .int .i64 l, .int .i64 0, .slice fo (sp.m q) fp, .slice eo (sp.en q) ep, .slice none 0 0, .slice none 0 0] 33)) := hBB.alloc hBB.size _
      have hBA1 : Below w1.heap.size w1 (wr.alloc (.cells #[.int .i64 sp.k, .int .i64 l, .int .i64 0, .slice fo (sp.m q) fp, .slice eo (sp.en q) ep, .slice none 0 0, .slice none 0 0] 33)) := hB.alloc hB.size _
      have hbody := HBD.out q _ _ (by omega) hBA (by have h := (HOK.out q (by omega)).below hBA1; rw [hcs] at h; exact h)
      have hBox := (boxed wr sp.k l 0 (.slice fo (sp.m q) fp) (.slice eo (sp.en q) ep) (.slice none 0 0) (.slice none 0 0)).1
      have q0 := fun o => cell_kept ((Below.refl wr.heap.size wr).alloc (Nat.le_refl _) o) c0
      have hl2 := HLF.out q (by omega)
      have hj1 : joinB f (q + 1) = joinB f q ++ sepB q ++ f q := rfl
      have HJ1 := Lib.hid hj1
      clear hrow hcs hj1
      by_cases h0 : q = 0
      · subst h0
        have hst : str ([40] ++ joinB f 0) ++ str (f 0) = str ([40] ++ joinB f (0 + 1)) := by rw [str_append, HJ1.out]; rfl
        have hz : ¬ 9223372036854775807 < (str ([40] ++ joinB f 0)).size + (str (f 0)).size := by rw [str_size, str_size, List.length_append, List.length_singleton]; omega
        unfold BodyOut at hbody
        obtain ⟨L, hL⟩ : ∃ L, str ([40] ++ joinB f 0) = L := ⟨_, rfl⟩
        obtain ⟨F, hF⟩ : ∃ F, str (f 0) = F := ⟨_, rfl⟩
        obtain ⟨R, hR⟩ : ∃ R, str ([40] ++ joinB f (0 + 1)) = R := ⟨_, rfl⟩
        rw [hL, hF, hR] at hst
        rw [hL, hF] at hz
        rw [hF] at hbody
        rw [hL]
        have HRR := Lib.hid hR
        have z0 : ((0 : Nat) : Int) = 0 := rfl
        rw [z0]
        rw [Nat.zero_mul] at r0 r1 r2 r3 r4 r5 r6
        clear hL hF hR hl1 hl2 z0
        go_wp2_with fail
        refine hbody.mono ?_
        rintro en2 w2 ⟨rfl, hB2⟩
        clear hbody r0 r1 r2 r3 r4 r5 r6 c0 c1 c2 c3 c4 c5 c6 q0
        go_wp2_with fail
        go_roundg m
        case measure => omega
        case rel => exact ⟨1, by omega, rfl, by rw [HRR.out], rfl, hBA1.trans (hB2.mono hBA1.size)⟩
      · have h1 : (0 : Int) < (q : Int) := by omega
        have hst : str ([40] ++ joinB f q) ++ str [44, 32] ++ str (f q) = str ([40] ++ joinB f (q + 1)) := by
          rw [str_append, str_append, HJ1.out, sepB_pos h0]
          simp [List.append_assoc]
        have hz1 : ¬ 9223372036854775807 < (str ([40] ++ joinB f q)).size + 2 := by rw [str_size, List.length_append, List.length_singleton]; omega
        have hz2 : ¬ 9223372036854775807 < (str ([40] ++ joinB f q) ++ str [44, 32]).size + (str (f q)).size := by rw [str_append, str_size, str_size, List.length_append, List.length_append, List.length_singleton]; simp; omega
        change str ([40] ++ joinB f q) ++ (⟨#[44, 32]⟩ : ByteArray) ++ _ = _ at hst
        unfold BodyOut at hbody
        obtain ⟨L, hL⟩ : ∃ L, str ([40] ++ joinB f q) = L := ⟨_, rfl⟩
        obtain ⟨F, hF⟩ : ∃ F, str (f q) = F := ⟨_, rfl⟩
        obtain ⟨R, hR⟩ : ∃ R, str ([40] ++ joinB f (q + 1)) = R := ⟨_, rfl⟩
        obtain ⟨L2, hL2⟩ : ∃ L2, L ++ (⟨#[44, 32]⟩ : ByteArray) = L2 := ⟨_, rfl⟩
        change ¬ 9223372036854775807 < (str ([40] ++ joinB f q) ++ (⟨#[44, 32]⟩ : ByteArray)).size + _ at hz2
        rw [hL, hF, hR, hL2] at hst
        rw [hL] at hz1
        rw [hL, hF, hL2] at hz2
        rw [hF] at hbody
        rw [hL]
        have HRR := Lib.hid hR
        clear hL hF hR hl1 hl2 h0
        go_wp2_with fail
        refine hbody.mono ?_
        rintro en2 w2 ⟨rfl, hB2⟩
        clear hbody r0 r1 r2 r3 r4 r5 r6 c0 c1 c2 c3 c4 c5 c6 q0
        go_wp2_with fail
        go_roundg m
        case measure => omega
        case rel => exact ⟨q + 1, by omega, rfl, by rw [HRR.out], rfl, hBA1.trans (hB2.mono hBA1.size)⟩

end Go.Proofs.YtodihpaabkplhaaDoor

namespace Go.Proofs.YtodihpaabkplhaaDoor
open Go.RowKit

set_option maxRecDepth 100000 in
set_option maxHeartbeats 3200000 in
theorem part3_any (l : Int) (fa ea : Option Addr) (sv kv : Value) (fn fc en ec i : Nat) (xs e : Nat → Nat) (w : World) (hr : FRowO w fa fn xs) (hie : IRow w ea en (fun j => (e j : Int))) (hi : i < en) (ha : fromE 0 e i ≤ e i) (hz : e i ≤ fn) (hfc : fn ≤ fc) (hfm : fc ≤ maxLen) (hn : fn ≤ 2000) (hen : en ≤ 100000) :
    Calls Tryd.prog 43 #[geomV 3 l 0 (.slice fa fn fc) (.slice ea en ec) sv kv, .int .i64 i] w (PartOut 8 l (fun j => xs (fromE 0 e i + j)) (e i - fromE 0 e i) 0 (fun _ => 0) w) := by
  obtain ⟨W2, hW2, hg, hz0, hB2, hs2⟩ := two_boxes w (geomC 3 l 0 (.slice fa fn fc) (.slice ea en ec) sv kv) zeroC
  unfold zeroC geomC at hW2
  have HW2 := Lib.hid hW2
  obtain ⟨ib, io, rfl, hcel⟩ := hie (by omega)
  have ce : W2.cell? ⟨ib, io + i, none⟩ = some (.int .i64 ((e i : Nat) : Int)) := cell_kept hB2 (hcel i hi).1
  obtain ⟨c0, c1, c2, c3, c4, c5, c6⟩ := hg.cells7
  have hin : (i : Int) < (en : Int) := by omega
  have hiI : (i : Int) ≤ 100000 := by omega
  have n1 : w.heap.size ≠ w.heap.size + 1 := by omega
  have n2 : ib ≠ w.heap.size + 1 := by have := World.block_lt_of_cell? w _ (hcel i hi).1; simp at this; omega
  obtain ⟨z, hze⟩ : ∃ z, e i = z := ⟨_, rfl⟩
  obtain ⟨a, hae⟩ : ∃ a, fromE 0 e i = a := ⟨_, rfl⟩
  rw [hze] at ce ha hz ⊢
  rw [hae] at ha ⊢
  have HAE := Lib.hid hae
  have HCEL := Lib.hid hcel
  have N1 := Lib.hid n1
  have N2 := Lib.hid n2
  clear hW2 hie hze hae hcel n1 n2
  unfold geomV
  go_enter Tryd.func43, Tryd.ntmps43
  go_upto_region 1 with fail
  rw [HW2.out]
  clear HW2
  go_upto_if 78 with fail
  go_cut [12] (fun v wx => v = .int .i64 (a : Int) ∧ wx = W2)
  case first =>
    by_cases h0 : i = 0
    · subst h0
      have ha0 : a = 0 := HAE.out.symm
      subst ha0
      have z0 : ((0 : Nat) : Int) = 0 := rfl
      rw [z0]
      clear z0 ce
      go_wp2_with fail
      go_meet
      exact ⟨rfl, rfl⟩
    · have h0' : (0 : Int) < (i : Int) := by omega
      obtain ⟨p, hp⟩ : ∃ p, i = p + 1 := ⟨i - 1, by omega⟩
      have cp : W2.cell? ⟨ib, io + p, none⟩ = some (.int .i64 ((e p : Nat) : Int)) := cell_kept hB2 (HCEL.out p (by omega)).1
      have hfe : e p = a := by rw [← HAE.out, hp, fromE_succ]
      rw [hfe] at cp
      have hp1 : (i : Int) - 1 = (p : Int) := by omega
      have hpn : (p : Int) < (en : Int) := by omega
      have hpI : (p : Int) ≤ 100000 := by omega
      clear h0 hfe hp
      go_wp2_with fail
      go_meet
      exact ⟨rfl, rfl⟩
  case rest =>
    obtain ⟨rfl, rfl⟩ := hcut
    rename_i K hK
    refine hK _ _ ?_
    clear hK
    have hi0 : (0 : Int) ≤ (i : Int) := by omega
    have hcmI : (fc : Int) ≤ 9223372036854775807 := by unfold maxLen at hfm; omega
    have HFM := Lib.hid hfm
    clear hfm
    have haz : a < z ∨ a = z := by omega
    rcases haz with haz | haz
    · obtain ⟨fb, fo, rfl, hx⟩ := hr (by omega)
      have h1 : (a : Int) ≤ (z : Int) := by omega
      have h2 : (z : Int) ≤ (fc : Int) := by omega
      have hne : ¬ fc = a := by omega
      have hsb : ((z : Int) - (a : Int)).toNat = z - a := by omega
      obtain ⟨i0, hi0', hz0', hz1, hz2⟩ := info_parts info_f64
      have hsrc := src_cells (o := .cells #[] 24) (a := a) (m := z - a) hx hB2 (by omega)
      have hlit := World.ownsRow_lit (e := 24) (size := 1) (base := w.heap.size) wc #[] 0 (by omega) (by decide) (by rfl)
      have hy : ∀ j, j < z - a → xs (a + j) < 18446744073709551616 := fun j hj => (hx (a + j) (by omega)).2
      have HY := Lib.hid hy
      have hq1 : 0 < z - a := by omega
      have hq2 : 0 + (z - a) ≤ maxLen := by unfold maxLen; omega
      have hq3 : (0 + (z - a)) * 8 ≤ 140737488355328 := by omega
      have hq4 : w.heap.size ≤ (wc.alloc (.cells #[] 24)).drew.heap.size := by show w.heap.size ≤ (wc.heap.push _).size; simp; omega
      have hq5 : (fltL (fun j => xs (a + j)) (z - a)).length = (z - a) * 1 := by rw [fltL_length, Nat.mul_one]
      have hq6 := fltL_one (fun j => xs (a + j)) (z - a)
      have hzc := fun (w1 : World) (hg : (wc.alloc (.cells #[] 24)).drew.grownBy w1 (some wc.heap.size)) => (Box.grownD hz0 hg).cells7
      have hzf := fun (w1 : World) (hg : (wc.alloc (.cells #[] 24)).drew.grownBy w1 (some wc.heap.size)) => (Box.grownD hz0 hg).frozen7
      have n1 := N1.out
      have n2 := N2.out
      have HQ2 := Lib.hid hq2
      have HQ3 := Lib.hid hq3
      have HQ5 := Lib.hid hq5
      have HQ6 := Lib.hid hq6
      have HZC := Lib.hid hzc
      have HZF := Lib.hid hzf
      have HSRC := Lib.hid hsrc
      have HLIT := Lib.hid hlit
      clear hq2 hq3 hq5 hq6 hzc hzf hsrc hlit hr hx hy
      go_wp2_with fail
      go_region_held3 (fun x => x.cell? ⟨w.heap.size, 1, none⟩ = some (.int .i64 l) ∧ x.cell? ⟨w.heap.size, 3, none⟩ = some (.slice (some ⟨fb, fo, none⟩) fn fc) ∧ x.cell? ⟨w.heap.size, 4, none⟩ = some (.slice (some ⟨ib, io, none⟩) en ec) ∧ x.cell? ⟨ib, io + i, none⟩ = some (.int .i64 (z : Int)))
        (first | (with_reducible exact ⟨e1, e3, e4, e5⟩) | (with_reducible exact ⟨(far7 n1 e1 _ _ _ _ _ _ _), (far7 n1 e3 _ _ _ _ _ _ _), (far7 n1 e4 _ _ _ _ _ _ _), (far7 n2 e5 _ _ _ _ _ _ _)⟩) | go_keep)
        ((refine step_append_lies _ (by rfl) _ _ _ (by rfl) w.heap.size 24 i0 _ 1 8 Tryd.underlying22 hi0' hz0' hz1 hz2 rfl (by decide) (.slice (some ⟨wc.heap.size, 0, none⟩) 0 0) 0 [] (by rfl) HLIT.out ⟨fb, fo + a, none⟩ (z - a) (fc - a) (fltL (fun j => xs (a + j)) (z - a)) (by rfl) HQ5.out HSRC.out HQ6.out hq1 HQ2.out HQ3.out hq4 _ rfl ?_; intro g cap w1 hown1 hgrow hat hlt; have e1 := grown_cell c1 hgrow; have e3 := grown_cell c3 hgrow; have e4 := grown_cell c4 hgrow; have e5 := grown_cell ce hgrow; obtain ⟨z0, z1, z2, z3, z4, z5, z6⟩ := HZC.out w1 hgrow; obtain ⟨y0, y1, y2, y3, y4, y5, y6⟩ := HZF.out w1 hgrow))
      go_wp2_with fail
      have hb3 := grown_below hB2 hgrow
      exact bodyPost_ret (v := .agg #[.int .i64 8, .int .i64 l, .int .i64 0, .slice (some ⟨g, 0, none⟩) (z - a) cap, .slice none 0 0, .slice none 0 0, .slice none 0 0]) (by simp [results, Tryd.results43, go_sem, z0, z1, z2, z3, z4, z5, z6]) rfl (part_out hown1 HY.out hb3 (by
        rcases hat with h | h
        · have : wc.heap.size = g := by simpa [Value.ownBlock] using h
          omega
        · rw [h]
          show w.heap.size + 1 < (wc.heap.push _).size
          simp
          omega))
    · subst haz
      have hsb : ((a : Int) - (a : Int)).toNat = 0 := by omega
      have h1 : (a : Int) ≤ (a : Int) := Int.le_refl _
      have h2 : (a : Int) ≤ (fc : Int) := by omega
      have n1 := N1.out
      have n2 := N2.out
      have hb3 : Below w.heap.size w (wc.alloc (.cells #[] 24)).drew := (hB2.alloc hB2.size _).drew
      obtain ⟨z0, z1, z2, z3, z4, z5, z6⟩ := (Box.below hz0 ((Below.refl _ _).alloc (Nat.le_refl _) (.cells #[] 24))).cells7
      obtain ⟨y0, y1, y2, y3, y4, y5, y6⟩ := (Box.below hz0 ((Below.refl _ _).alloc (Nat.le_refl _) (.cells #[] 24))).frozen7
      have e1 := cell_kept ((Below.refl _ _).alloc (Nat.le_refl _) (.cells #[] 24)) c1
      have e3 := cell_kept ((Below.refl _ _).alloc (Nat.le_refl _) (.cells #[] 24)) c3
      have e4 := cell_kept ((Below.refl _ _).alloc (Nat.le_refl _) (.cells #[] 24)) c4
      have e5 := cell_kept ((Below.refl _ _).alloc (Nat.le_refl _) (.cells #[] 24)) ce
      have hfa : fa = none ∨ ∃ ad, fa = some ad := by cases fa with | none => exact Or.inl rfl | some ad => exact Or.inr ⟨ad, rfl⟩
      clear hr
      go_wp2_with fail
      rcases hfa with rfl | ⟨ad, rfl⟩
      · go_region_held3 (fun x => x.cell? ⟨w.heap.size, 1, none⟩ = some (.int .i64 l) ∧ x.cell? ⟨w.heap.size, 3, none⟩ = some (.slice none fn fc) ∧ x.cell? ⟨w.heap.size, 4, none⟩ = some (.slice (some ⟨ib, io, none⟩) en ec) ∧ x.cell? ⟨ib, io + i, none⟩ = some (.int .i64 (a : Int)))
          (first | (with_reducible exact ⟨(far7d n1 e1 _ _ _ _ _ _ _), (far7d n1 e3 _ _ _ _ _ _ _), (far7d n1 e4 _ _ _ _ _ _ _), (far7d n2 e5 _ _ _ _ _ _ _)⟩) | go_keep)
          (fail)
        go_wp2_with fail
        exact bodyPost_ret (v := .agg #[.int .i64 8, .int .i64 l, .int .i64 0, .slice (some ⟨wc.heap.size, 0, none⟩) 0 0, .slice none 0 0, .slice none 0 0, .slice none 0 0]) (by simp [results, Tryd.results43, go_sem, z0, z1, z2, z3, z4, z5, z6]) rfl (part_nil (hB2.alloc hB2.size _) _ _ _ _ _ _ _)
      · by_cases hne : fc = a
        all_goals
          go_region_held3 (fun x => x.cell? ⟨w.heap.size, 1, none⟩ = some (.int .i64 l) ∧ x.cell? ⟨w.heap.size, 3, none⟩ = some (.slice (some ad) fn fc) ∧ x.cell? ⟨w.heap.size, 4, none⟩ = some (.slice (some ⟨ib, io, none⟩) en ec) ∧ x.cell? ⟨ib, io + i, none⟩ = some (.int .i64 (a : Int)))
            (first | (with_reducible exact ⟨(far7d n1 e1 _ _ _ _ _ _ _), (far7d n1 e3 _ _ _ _ _ _ _), (far7d n1 e4 _ _ _ _ _ _ _), (far7d n2 e5 _ _ _ _ _ _ _)⟩) | go_keep)
            (fail)
          go_wp2_with fail
          exact bodyPost_ret (v := .agg #[.int .i64 8, .int .i64 l, .int .i64 0, .slice (some ⟨wc.heap.size, 0, none⟩) 0 0, .slice none 0 0, .slice none 0 0, .slice none 0 0]) (by simp [results, Tryd.results43, go_sem, z0, z1, z2, z3, z4, z5, z6]) rfl (part_nil (hB2.alloc hB2.size _) _ _ _ _ _ _ _)

end Go.Proofs.YtodihpaabkplhaaDoor

namespace Go.Proofs.YtodihpaabkplhaaDoor
open Go.RowKit

theorem info_int : (Tryd.prog.info? 3).map (fun i => (i.zero, i.size, i.bytes)) = some (some (.int .i64 0), 1, 8) := by kernel_rfl
/-- The cells of whole numbers. -/
def intL (ys : Nat → Nat) : Nat → List Value
  | 0 => []
  | n + 1 => intL ys n ++ [.int .i64 (ys n : Int)]
theorem intL_length (ys : Nat → Nat) : ∀ n, (intL ys n).length = n
  | 0 => rfl
  | n + 1 => by rw [intL, List.length_append, intL_length ys n]; rfl
theorem intL_get (ys : Nat → Nat) : ∀ n j, j < n → (intL ys n)[j]? = some (.int .i64 (ys j : Int))
  | 0, _, h => absurd h (by omega)
  | n + 1, j, h => by
    have hl := intL_length ys n
    rw [intL]
    rcases Nat.lt_or_ge j n with h1 | h1
    · rw [List.getElem?_append_left (by omega)]
      exact intL_get ys n j h1
    · obtain rfl : j = n := by omega
      rw [List.getElem?_append_right (by omega), hl, Nat.sub_self]
      rfl
theorem own_irow {w : World} {B m c : Nat} {eo : Option Addr} {ys : Nat → Nat} (h : OwnV w B 3 1 (.slice eo m c) m (intL ys m)) (hy : ∀ j, j < m → I64 (ys j : Int)) : IRowT w eo m ys := by
  refine ⟨fun hm => ?_, hy⟩
  have h1 : w.ownsRow B 3 1 (.slice eo m c) m (intL ys m) := h
  rcases h1.2 with ⟨_, h0⟩ | ⟨g', cap', cur, hv, _, hh, h2, h3, h4, h5⟩
  · omega
  · cases hv
    refine ⟨g', rfl, cur, hh, by omega, fun j hj => ?_⟩
    have hg := intL_get ys m j hj
    rw [← h5, List.getElem?_take, if_pos (by omega), Array.getElem?_toList] at hg
    exact hg

theorem keep_set {w : World} {c : Nat} {cs : Array Value} (hb : Box w c 33 cs) (j : Nat) (u : Value) : ∀ (b : Nat) (a : Array Value) (T : TypeId), T ≠ 33 → w.heap[b]? = some (Obj.cells a T (0, 0)) → (w.setCell ⟨c, j, none⟩ u).heap[b]? = w.heap[b]? := fun b a T hT h =>
  Below.heap_setCell w ⟨c, j, none⟩ u b (by
    show b ≠ c
    rintro rfl
    unfold Box at hb
    rw [hb] at h
    injection h with h
    injection h with _ h2
    exact hT h2.symm)
theorem Box.set_ {w : World} {c : Nat} {T : TypeId} {cs : Array Value} (h : Box w c T cs) (j : Nat) (u : Value) : Box (w.setCell ⟨c, j, none⟩ u) c T (cs.setIfInBounds j u) := by
  unfold Box at h ⊢
  simp [World.setCell, Array.getElem?_modify, h]
theorem Box.far {w : World} {b c : Nat} {T : TypeId} {cs : Array Value} (h : Box w b T cs) (hne : b ≠ c) (j : Nat) (u : Value) : Box (w.setCell ⟨c, j, none⟩ u) b T cs := (Below.heap_setCell w ⟨c, j, none⟩ u b hne).trans h
theorem PartV.set {w : World} {c : Nat} {gs : Array Value} {k l : Int} {m : Nat} {ys : Nat → Nat} {en : Nat} {es : Nat → Nat} {cs : Array Value} (h : PartV w k l m ys en es cs) (hb : Box w c 33 gs) (j : Nat) (u : Value) : PartV (w.setCell ⟨c, j, none⟩ u) k l m ys en es cs := h.mono (keep_set hb j u)
theorem part_store {w w5 : World} {gs : Array Value} {k l : Int} {m : Nat} {ys : Nat → Nat} {en : Nat} {es : Nat → Nat} {cs : Array Value} (h : PartV w5 k l m ys en es cs) (hb : Box w5 (w.heap.size + 1) 33 gs) (hB : Below w.heap.size w w5) (a0 a1 a2 a3 a4 a5 a6 : Value) :
    PartOut k l ys m en es w (.returned (.agg cs)) (((((((w5.setCell ⟨w.heap.size + 1, 0, none⟩ a0).setCell ⟨w.heap.size + 1, 1, none⟩ a1).setCell ⟨w.heap.size + 1, 2, none⟩ a2).setCell ⟨w.heap.size + 1, 3, none⟩ a3).setCell ⟨w.heap.size + 1, 4, none⟩ a4).setCell ⟨w.heap.size + 1, 5, none⟩ a5).setCell ⟨w.heap.size + 1, 6, none⟩ a6) := by
  refine ⟨cs, rfl, ?_, below7 hB (by omega) _ _ _ _ _ _ _⟩
  have b1 := hb.set_ 0 a0
  have b2 := b1.set_ 1 a1
  have b3 := b2.set_ 2 a2
  have b4 := b3.set_ 3 a3
  have b5 := b4.set_ 4 a4
  have b6 := b5.set_ 5 a5
  exact ((((((h.set hb 0 a0).set b1 1 a1).set b2 2 a2).set b3 3 a3).set b4 4 a4).set b5 5 a5).set b6 6 a6
theorem own_set {w : World} {c n j : Nat} {te : TypeId} {v u : Value} {xs : List Value} (h : OwnV w (c + 1) te 1 v n xs) : OwnV (w.setCell ⟨c, j, none⟩ u) (c + 1) te 1 v n xs := by
  refine ⟨h.1, ?_⟩
  rcases h.2 with ⟨e, h0⟩ | ⟨g, cap, cur, e, hBg, hg, h4⟩
  · exact Or.inl ⟨e, h0⟩
  · exact Or.inr ⟨g, cap, cur, e, hBg, (Below.heap_setCell w ⟨c, j, none⟩ u g (by show g ≠ c; omega)).trans hg, h4⟩
/-- The polygon while its ends are put together. -/
def Half (W2 wx : World) (l : Int) (es : Nat → Nat) (j : Nat) (eo : Option Addr) (c : Nat) : Prop :=
  Box wx W2.heap.size 33 (geomC 3 l 0 (.slice none 0 0) (.slice eo j c) (.slice none 0 0) (.slice none 0 0)) ∧ OwnV wx (W2.heap.size + 1) 3 1 (.slice eo j c) j (intL es j) ∧ Below W2.heap.size W2 wx

set_option maxRecDepth 100000 in
set_option maxHeartbeats 3200000 in
theorem part6_any (l : Int) (s : Nat) (fa sa : Option Addr) (ev kv : Value) (fn fc sn sc i : Nat) (xs m : Nat → Nat) (e : Nat → Nat → Nat) (w : World) (hr : FRowO w fa fn xs) (hie : LRow w sa sn m (fun i j => (e i j : Int))) (hi : i < sn) (hE : AreasUp s m e sn) (hto : fromA 0 m e sn ≤ fn) (hfc : fn ≤ fc) (hfm : fc ≤ maxLen) (hn : fn ≤ 2000) (hsn : sn ≤ 100000) (hssc : sn ≤ sc) (hscm : sc ≤ maxLen) (hm : ∀ i, i < sn → m i ≤ 100000) :
    Calls Tryd.prog 43 #[geomV 6 l 0 (.slice fa fn fc) ev (.slice sa sn sc) kv, .int .i64 i] w (PartOut 3 l (fun j => xs (fromA 0 m e i + j)) (fromA 0 m e (i + 1) - fromA 0 m e i) (m i) (fun j => e i j - fromA 0 m e i) w) := by
  obtain ⟨W2, hW2, hg, hz0, hB2, hs2⟩ := two_boxes w (geomC 6 l 0 (.slice fa fn fc) ev (.slice sa sn sc) kv) zeroC
  unfold zeroC geomC at hW2
  have HW2 := Lib.hid hW2
  obtain ⟨lb, lo, rfl, hcel⟩ := hie (by omega)
  obtain ⟨c0, c1, c2, c3, c4, c5, c6⟩ := hg.cells7
  have hin : (i : Int) ≤ (sn : Int) := by omega
  have hisc : (i : Int) ≤ (sc : Int) := by omega
  have hin2 : (i : Int) < (sn : Int) := by omega
  have hiI : (i : Int) ≤ 100000 := by omega
  have hscI : (sc : Int) ≤ 9223372036854775807 := by unfold maxLen at hscm; omega
  have HCEL := Lib.hid hcel
  have HE := Lib.hid hE
  have HM := Lib.hid hm
  have HFM := Lib.hid hfm
  have HTO := Lib.hid hto
  clear hW2 hie hcel hE hm hfm hto hscm
  unfold geomV
  go_enter Tryd.func43, Tryd.ntmps43
  go_upto_region 1 with fail
  rw [HW2.out]
  clear HW2
  go_wp2_with fail
  go_loopg [30, 5] i (fun mm v30 v5 wr => ∃ q : Nat, q + mm = i ∧ v30 = .int .i64 (q : Int) ∧ v5 = .int .i64 ((fromA 0 m e q : Nat) : Int) ∧ wr = W2)
  case atStart => exact ⟨0, by omega, rfl, rfl, rfl⟩
  case round =>
    obtain ⟨q, hq, rfl, rfl, hwr⟩ := hrel
    have hwr2 := hwr.symm
    clear hwr
    subst hwr2
    cases gk with
    | succ mm =>
      obtain ⟨eo, ec, hce1, hmc, hcm2, hir⟩ := HCEL.out q (by omega)
      have ce := cell_kept hB2 hce1
      have hqi : (q : Int) < (i : Int) := by omega
      have hf1 : fromA 0 m e (q + 1) = fromE (fromA 0 m e q) (e q) (m q) := rfl
      have hmq := HM.out q (by omega)
      obtain ⟨a, ha⟩ : ∃ a, fromA 0 m e q = a := ⟨_, rfl⟩
      obtain ⟨M, hM⟩ : ∃ M, m q = M := ⟨_, rfl⟩
      rw [ha, hM] at hf1
      rw [hM] at ce hir hmq
      rw [ha]
      have HF1 := Lib.hid hf1
      clear hce1 hmc hcm2 ha hM hf1
      by_cases hM0 : M = 0
      · have hM0' : ¬ 0 < M := by omega
        have hf0 : fromA 0 m e (q + 1) = a := by rw [HF1.out, hM0]; rfl
        have HF0 := Lib.hid hf0
        clear hM0 hf0 hir hmq
        go_wp2_with fail
        go_roundg mm
        case measure => omega
        case rel => exact ⟨q + 1, by omega, rfl, by rw [HF0.out], rfl⟩
      · have hM0' : 0 < M := by omega
        obtain ⟨P, hP⟩ : ∃ P, M = P + 1 := ⟨M - 1, by omega⟩
        obtain ⟨eb1, eo1, rfl, hcell⟩ := hir hM0'
        have hlast : W2.cell? ⟨eb1, eo1 + P, none⟩ = some (.int .i64 ((e q P : Nat) : Int)) := cell_kept hB2 (hcell P (by omega)).1
        have hf9 : fromA 0 m e (q + 1) = e q P := by rw [HF1.out, hP, fromE_succ]
        obtain ⟨z, hz⟩ : ∃ z, e q P = z := ⟨_, rfl⟩
        rw [hz] at hlast hf9
        have HF9 := Lib.hid hf9
        have hP1 : (M : Int) - 1 = (P : Int) := by omega
        have hPM : (P : Int) < (M : Int) := by omega
        have hMI : (M : Int) ≤ 100000 := by omega
        clear hM0 hP hcell hf9 hz hmq
        go_wp2_with fail
        go_roundg mm
        case measure => omega
        case rel => exact ⟨q + 1, by omega, rfl, by rw [HF9.out], rfl⟩
    | zero =>
      have hqi : q = i := by omega
      subst hqi
      obtain ⟨eo, ec, hce1, hmc, hcm2, hir⟩ := HCEL.out q hi
      have ce := cell_kept hB2 hce1
      obtain ⟨a, ha⟩ : ∃ a, fromA 0 m e q = a := ⟨_, rfl⟩
      rw [ha]
      have HA := Lib.hid ha
      have HIR := Lib.hid (hir.below hB2)
      have q0 := fun o => cell_kept ((Below.refl W2.heap.size W2).alloc (Nat.le_refl _) o) c5
      have q1 := fun o => cell_kept ((Below.refl W2.heap.size W2).alloc (Nat.le_refl _) o) ce
      have hEi := HE.out q hi
      rw [ha] at hEi
      have hend : fromA 0 m e (q + 1) = fromE a (e q) (m q) := by rw [← ha]; rfl
      have hMI := HM.out q hi
      have hto2 : fromA 0 m e (q + 1) ≤ fn := Nat.le_trans (HE.out.le (q + 1) sn (by omega) (Nat.le_refl _)) HTO.out
      rw [hend] at hto2
      have haz := hEi.st_le (m q) (Nat.le_refl _)
      have HEND := Lib.hid hend
      have HEI := Lib.hid hEi
      obtain ⟨M, hM⟩ : ∃ M, m q = M := ⟨_, rfl⟩
      rw [hM] at ce q1 HIR HEI HEND hMI hto2 haz
      have HMQ := Lib.hid hM
      have hMI2 : (M : Int) ≤ 100000 := by omega
      have HAZ := Lib.hid haz
      have HTO2 := Lib.hid hto2
      clear hce1 hmc hcm2 ha hir hEi hend hM hMI hto2 haz
      go_wp2_with fail
      go_loopg [54, 9] M (fun mm v54 v9 wx => ∃ (j : Nat) (eo' : Option Addr) (c' : Nat), j + mm = M ∧ v54 = .int .i64 (j : Int) ∧ v9 = .int .i64 ((fromE a (e q) j : Nat) : Int) ∧ Half W2 wx l (fun j => e q j - a) j eo' c')
      case atStart => exact ⟨0, none, 0, by omega, rfl, rfl, Box.new _ _ _, World.ownsRow_nil _ _ _ _, (Below.refl _ _).alloc (Nat.le_refl _) _⟩
      case round =>
        clear q0 q1
        obtain ⟨j, eo', c', hj, rfl, rfl, hh⟩ := hrel
        obtain ⟨hbx, hown, hB⟩ := hh
        cases gk with
        | succ mm =>
          obtain ⟨eb, eof, rfl, hcc⟩ := HIR.out (by omega)
          have cj : wr.cell? ⟨eb, eof + j, none⟩ = some (.int .i64 ((e q j : Nat) : Int)) := cell_kept hB (hcc j (by omega)).1
          have h64 := (hcc j (by omega)).2
          have haj : a ≤ e q j := by
            have := HEI.out.st_le (j + 1) (by omega)
            rwa [fromE_succ] at this
          have hfs : fromE a (e q) (j + 1) = e q j := fromE_succ _ _ _
          have hil : intL (fun j => e q j - a) (j + 1) = intL (fun j => e q j - a) j ++ [.int .i64 ((e q j - a : Nat) : Int)] := rfl
          obtain ⟨z, hz⟩ : ∃ z, e q j = z := ⟨_, rfl⟩
          rw [hz] at cj haj hfs hil
          have hz64 : (z : Int) ≤ 9223372036854775807 := by have := h64.2; show ((z : Nat) : Int) ≤ _; rw [← hz]; exact this
          have hd : (z : Int) - (a : Int) = ((z - a : Nat) : Int) := by omega
          have hjM : (j : Int) < (M : Int) := by omega
          have hjI : (j : Int) ≤ 100000 := by omega
          have hj9 : j ≤ 100000 := by omega
          have HJ9 := Lib.hid hj9
          have HFS := Lib.hid hfs
          have HIL := Lib.hid hil
          obtain ⟨d0, d1, d2, d3, d4, d5, d6⟩ := hbx.cells7
          have q4 := fun o => cell_kept ((Below.refl wr.heap.size wr).alloc (Nat.le_refl _) o) d4
          have hown2 : wr.ownsRow (W2.heap.size + 1) 3 1 (.slice eo' j c') j (intL (fun j => e q j - a) j) := hown
          have hbw : W2.heap.size + 1 ≤ wr.heap.size := hbx.lt
          have HBX := Lib.hid hbx
          clear hcc h64 hfs hil hz hj9 hown hbx
          go_wp2_with (at_builtin; refine wpList_pushN _ _ 29 3 (.int .i64 0) 1 8 rfl rfl Tryd.underlying29 info_int rfl (by decide) (W2.heap.size + 1) (.slice eo' j c') j (intL (fun j => e q j - a) j) _ _ rfl rfl rfl ?h1 hown2 ?h63 ?hb hbw ?_)
          case h1 => first | rfl | (intro u hu; simp at hu; subst hu; rfl)
          case h63 => have := HJ9.out; unfold maxLen; omega
          case hb => have := HJ9.out; omega
          intro v' w' hown' hB' _ g' c'' hv' _
          subst hv'
          have hbx2 : Box w' W2.heap.size 33 _ := (hB'.block W2.heap.size (Nat.lt_succ_self _)).trans HBX.out
          have x4 := hbx2.cells7.2.2.2.2.1
          have f4 := hbx2.frozen 4
          have hnew : Half W2 (w'.setCell ⟨W2.heap.size, 4, none⟩ (.slice (some ⟨g', 0, none⟩) (j + 1) c'')) l (fun j => e q j - a) (j + 1) (some ⟨g', 0, none⟩) c'' := by
            refine ⟨hbx2.set_ 4 _, own_set ?_, (hB.trans (hB'.mono (Nat.le_succ _))).setCell (p := ⟨W2.heap.size, 4, none⟩) (Nat.le_refl _) _⟩
            rw [HIL.out]
            exact hown'
          clear hown' hB' hbx2 hown2 q4 d0 d1 d2 d3 d4 d5 d6
          go_wp2_with fail
          go_roundg mm
          case measure => omega
          case rel => exact ⟨j + 1, some ⟨g', 0, none⟩, c'', by omega, rfl, by rw [HFS.out], hnew⟩
        | zero =>
          have hjM : j = M := by omega
          subst hjM
          obtain ⟨z, hz⟩ : ∃ z, fromE a (e q) j = z := ⟨_, rfl⟩
          have hza := HAZ.out
          have hzn := HTO2.out
          rw [hz] at hza hzn ⊢
          have HZ := Lib.hid hz
          have g3 : wr.cell? ⟨w.heap.size, 3, none⟩ = some (.slice fa fn fc) := cell_kept hB c3
          have q3 := fun o => cell_kept ((Below.refl wr.heap.size wr).alloc (Nat.le_refl _) o) g3
          have hzw := hz0.below hB
          have hBw : Below w.heap.size w wr := hB2.trans (hB.mono (by have := hB2.size; omega))
          have hirw : IRowT wr eo' j (fun j => e q j - a) := own_irow hown (fun j' hj' => by
            obtain ⟨eb, eof, _, hcc⟩ := HIR.out (by omega)
            have h := (hcc j' hj').2
            have h1 : ((e q j' : Nat) : Int) ≤ 9223372036854775807 := h.2
            refine ⟨?_, ?_⟩
            · show (-9223372036854775808 : Int) ≤ ((e q j' - a : Nat) : Int); omega
            · show ((e q j' - a : Nat) : Int) ≤ 9223372036854775807; omega)
          have hcmI : (fc : Int) ≤ 9223372036854775807 := by have := HFM.out; unfold maxLen at this; omega
          have hzc : W2.heap.size ≠ w.heap.size + 1 := by omega
          clear hz hown c0 c1 c2 c3 c4 c5 c6 ce
          rcases (by omega : a < z ∨ a = z) with haz | haz
          · obtain ⟨fb, fo, rfl, hx⟩ := hr (by omega)
            have h1 : (a : Int) ≤ (z : Int) := by omega
            have h2 : (z : Int) ≤ (fc : Int) := by omega
            have hne : ¬ fc = a := by omega
            have hsb : ((z : Int) - (a : Int)).toNat = z - a := by omega
            obtain ⟨i0, hi0', hz0', hz1, hz2⟩ := info_parts info_f64
            have hsrc : ∀ j' u, (fltL (fun j => xs (a + j)) (z - a))[j']? = some u → (wr.alloc (.cells #[] 24)).cell? ((⟨fb, fo + a, none⟩ : Addr).add j') = some u := fun j' u hu => by
              have h := src_cells (o := .cells #[] 24) (a := a) (m := z - a) hx hBw (by omega) j' u hu
              rwa [cell_drew] at h
            have hlit := World.ownsRow_lit (e := 24) (size := 1) (base := w.heap.size) wr #[] 0 hBw.size (by decide) (by rfl)
            have hy : ∀ j, j < z - a → xs (a + j) < 18446744073709551616 := fun j hj => (hx (a + j) (by omega)).2
            have HY := Lib.hid hy
            have hq1 : 0 < z - a := by omega
            have HQ2 : Hid (0 + (z - a) ≤ maxLen) := Lib.hid (by unfold maxLen; omega)
            have HQ3 : Hid ((0 + (z - a)) * 8 ≤ 140737488355328) := Lib.hid (by omega)
            have hq4 : w.heap.size ≤ (wr.alloc (.cells #[] 24)).heap.size := by have := hBw.size; show w.heap.size ≤ (wr.heap.push _).size; simp; omega
            have HQ5 : Hid ((fltL (fun j => xs (a + j)) (z - a)).length = (z - a) * 1) := Lib.hid (by rw [fltL_length, Nat.mul_one])
            have HQ6 := Lib.hid (fltL_one (fun j => xs (a + j)) (z - a))
            have HSRC := Lib.hid hsrc
            have HLIT := Lib.hid hlit
            clear hsrc hlit hr hx hy
            go_wp2_with (at_builtin; refine wpList_append_lies _ rfl _ _ 22 rfl w.heap.size 24 i0 _ 1 8 Tryd.underlying22 hi0' hz0' hz1 hz2 rfl (by decide) (.slice (some ⟨wr.heap.size, 0, none⟩) 0 0) 0 [] rfl HLIT.out ⟨fb, fo + a, none⟩ (z - a) (fc - a) (fltL (fun j => xs (a + j)) (z - a)) rfl HQ5.out HSRC.out HQ6.out hq1 HQ2.out HQ3.out hq4 _ rfl ?_)
            intro g3' cap3 w1 hown1 hgrow _ _
            have hg2 : (wr.alloc (.cells #[] 24)).drew.grownBy w1 (some wr.heap.size) := ⟨hgrow.os, hgrow.tape, hgrow.output, hgrow.size, hgrow.block⟩
            have bx1 := Box.grownD hbx hg2
            have bz1 := Box.grownD hzw hg2
            have hir1 := hirw.mono (fun b a h => grown_block (heap_lt h) hg2)
            obtain ⟨hoc, hcap3⟩ := own_cells (m := z - a) (by rw [Nat.zero_add, List.nil_append]; exact hown1)
            have hB1 : Below w.heap.size w w1 := grown_below hBw hg2
            have hpv : PartV (w1.setCell ⟨W2.heap.size, 3, none⟩ (.slice (some ⟨g3', 0, none⟩) (z - a) cap3)) 3 l (z - a) (fun j => xs (a + j)) j (fun j => e q j - a) #[.int .i64 3, .int .i64 l, .int .i64 0, .slice (some ⟨g3', 0, none⟩) (z - a) cap3, .slice eo' j c', .slice none 0 0, .slice none 0 0] :=
              PartV.set ⟨_, _, _, _, rfl, hcap3, ⟨fun _ => ⟨g3', rfl, hoc⟩, HY.out⟩, hir1⟩ bx1 3 _
            have x3 := bx1.cells7.2.2.2.1
            have f3 := bx1.frozen 3
            have bx5 : Box (w1.setCell ⟨W2.heap.size, 3, none⟩ (.slice (some ⟨g3', 0, none⟩) (z - a) cap3)) W2.heap.size 33 (geomC 3 l 0 (.slice (some ⟨g3', 0, none⟩) (z - a) cap3) (.slice eo' j c') (.slice none 0 0) (.slice none 0 0)) := bx1.set_ 3 _
            have bz5 : Box (w1.setCell ⟨W2.heap.size, 3, none⟩ (.slice (some ⟨g3', 0, none⟩) (z - a) cap3)) (w.heap.size + 1) 33 zeroC := bz1.far (by omega) 3 _
            obtain ⟨b0, b1, b2, b3, b4, b5, b6⟩ := bx5.cells7
            obtain ⟨z0, z1, z2, z3, z4, z5, z6⟩ := bz5.cells7
            obtain ⟨y0, y1, y2, y3, y4, y5, y6⟩ := bz5.frozen7
            have hB5 : Below w.heap.size w (w1.setCell ⟨W2.heap.size, 3, none⟩ (.slice (some ⟨g3', 0, none⟩) (z - a) cap3)) := hB1.setCell (p := ⟨W2.heap.size, 3, none⟩) hB2.size _
            go_wp2_with fail
            refine bodyPost_ret (v := .agg #[.int .i64 3, .int .i64 l, .int .i64 0, .slice (some ⟨g3', 0, none⟩) (z - a) cap3, .slice eo' j c', .slice none 0 0, .slice none 0 0]) (by simp [results, Tryd.results43, go_sem, z0, z1, z2, z3, z4, z5, z6]) rfl ?_
            rw [HA.out, HEND.out, HMQ.out, HZ.out]
            exact part_store hpv bz5 hB5 _ _ _ _ _ _ _
          · subst haz
            have h1 : (a : Int) ≤ (a : Int) := Int.le_refl _
            have h2 : (a : Int) ≤ (fc : Int) := by omega
            have hsb : ((a : Int) - (a : Int)).toNat = 0 := by omega
            have hal : Below wr.heap.size wr (wr.alloc (.cells #[] 24)) := (Below.refl _ _).alloc (Nat.le_refl _) _
            have bx1 := hbx.below hal
            have bz1 := hzw.below hal
            have hir1 := hirw.below hal
            have hB1 : Below w.heap.size w (wr.alloc (.cells #[] 24)) := hBw.alloc hBw.size _
            have hpv : PartV ((wr.alloc (.cells #[] 24)).setCell ⟨W2.heap.size, 3, none⟩ (.slice (some ⟨wr.heap.size, 0, none⟩) 0 0)) 3 l (a - a) (fun j => xs (a + j)) j (fun j => e q j - a) #[.int .i64 3, .int .i64 l, .int .i64 0, .slice (some ⟨wr.heap.size, 0, none⟩) 0 0, .slice eo' j c', .slice none 0 0, .slice none 0 0] := by
              rw [Nat.sub_self]
              exact PartV.set ⟨_, _, _, _, rfl, ⟨Nat.le_refl _, Nat.zero_le _⟩, ⟨fun h => absurd h (by omega), fun _ h => absurd h (by omega)⟩, hir1⟩ bx1 3 _
            have x3 := bx1.cells7.2.2.2.1
            have f3 := bx1.frozen 3
            have bx5 : Box ((wr.alloc (.cells #[] 24)).setCell ⟨W2.heap.size, 3, none⟩ (.slice (some ⟨wr.heap.size, 0, none⟩) 0 0)) W2.heap.size 33 (geomC 3 l 0 (.slice (some ⟨wr.heap.size, 0, none⟩) 0 0) (.slice eo' j c') (.slice none 0 0) (.slice none 0 0)) := bx1.set_ 3 _
            have bz5 : Box ((wr.alloc (.cells #[] 24)).setCell ⟨W2.heap.size, 3, none⟩ (.slice (some ⟨wr.heap.size, 0, none⟩) 0 0)) (w.heap.size + 1) 33 zeroC := bz1.far (by omega) 3 _
            obtain ⟨b0, b1, b2, b3, b4, b5, b6⟩ := bx5.cells7
            obtain ⟨z0, z1, z2, z3, z4, z5, z6⟩ := bz5.cells7
            obtain ⟨y0, y1, y2, y3, y4, y5, y6⟩ := bz5.frozen7
            have hB5 : Below w.heap.size w ((wr.alloc (.cells #[] 24)).setCell ⟨W2.heap.size, 3, none⟩ (.slice (some ⟨wr.heap.size, 0, none⟩) 0 0)) := hB1.setCell (p := ⟨W2.heap.size, 3, none⟩) hB2.size _
            have hfa : fa = none ∨ ∃ ad, fa = some ad := by cases fa with | none => exact Or.inl rfl | some ad => exact Or.inr ⟨ad, rfl⟩
            clear hr
            rcases hfa with rfl | ⟨ad, rfl⟩
            · go_wp2_with fail
              refine bodyPost_ret (v := .agg #[.int .i64 3, .int .i64 l, .int .i64 0, .slice (some ⟨wr.heap.size, 0, none⟩) 0 0, .slice eo' j c', .slice none 0 0, .slice none 0 0]) (by simp [results, Tryd.results43, go_sem, z0, z1, z2, z3, z4, z5, z6]) rfl ?_
              rw [HA.out, HEND.out, HMQ.out, HZ.out]
              exact part_store hpv bz5 hB5 _ _ _ _ _ _ _
            · by_cases hne : fc = a
              all_goals
                go_wp2_with fail
                refine bodyPost_ret (v := .agg #[.int .i64 3, .int .i64 l, .int .i64 0, .slice (some ⟨wr.heap.size, 0, none⟩) 0 0, .slice eo' j c', .slice none 0 0, .slice none 0 0]) (by simp [results, Tryd.results43, go_sem, z0, z1, z2, z3, z4, z5, z6]) rfl ?_
                rw [HA.out, HEND.out, HMQ.out, HZ.out]
                exact part_store hpv bz5 hB5 _ _ _ _ _ _ _
end Go.Proofs.YtodihpaabkplhaaDoor

namespace Go.Proofs.YtodihpaabkplhaaDoor
open Go.RowKit

/-- What zzFits3 tells. -/
def FitsOk (sn : Nat) (m : Nat → Nat) (b : Bool) : Prop := b = true → sn ≤ 2147483647 ∧ ∀ i, i < sn → m i ≤ 2147483647
set_option maxRecDepth 100000 in
set_option maxHeartbeats 1600000 in
theorem zzFits3_any (so : Option Addr) (sn sc : Nat) (m : Nat → Nat) (e : Nat → Nat → Int) (w : World) (hs : LRow w so sn m e) :
    Calls Tryd.prog 22 #[.slice so sn sc] w fun en w' => ∃ b, en = .returned (.bool b) ∧ FitsOk sn m b ∧ w = w' := by
  have HS := Lib.hid hs
  clear hs
  by_cases hb : 2147483647 < sn
  · have hb' : (2147483647 : Int) < (sn : Int) := by omega
    clear hb
    go_enter Tryd.func22, Tryd.ntmps22
    go_wp2_with fail
    go_ret
    exact ⟨_, rfl, (fun h => by cases h), rfl⟩
  · have hb' : ¬ (2147483647 : Int) < (sn : Int) := by omega
    have hb2 : (sn : Int) ≤ 2147483647 := by omega
    have HB := Lib.hid hb
    clear hb
    go_enter Tryd.func22, Tryd.ntmps22
    go_wp2_with fail
    go_loopg [10] sn (fun mm v wr => ∃ i : Nat, i + mm = sn ∧ v = .int .i64 (i : Int) ∧ Hid (∀ j, j < i → m j ≤ 2147483647) ∧ wr = w)
    case atStart => exact ⟨0, by omega, rfl, Lib.hid (fun _ h => absurd h (by omega)), rfl⟩
    case round =>
      obtain ⟨i, hi, rfl, hok, rfl⟩ := hrel
      cases gk with
      | zero =>
        have hin : i = sn := by omega
        subst hin
        go_wp2_with fail
        go_ret
        exact ⟨_, rfl, (fun _ => ⟨by have := HB.out; omega, hok.out⟩), rfl⟩
      | succ mm =>
        obtain ⟨lb, lo, rfl, hcel⟩ := HS.out (by omega)
        obtain ⟨eo, ec, ce, _, _, _⟩ := hcel i (by omega)
        have hin : (i : Int) < (sn : Int) := by omega
        obtain ⟨M, hM⟩ : ∃ M, m i = M := ⟨_, rfl⟩
        rw [hM] at ce
        have HM := Lib.hid hM
        clear hcel hM
        by_cases hM9 : 2147483647 < M
        · have hM' : (2147483647 : Int) < (M : Int) := by omega
          clear hM9
          go_wp2_with fail
          go_ret
          exact ⟨_, rfl, (fun h => by cases h), rfl⟩
        · have hM' : ¬ (2147483647 : Int) < (M : Int) := by omega
          have HM9 := Lib.hid hM9
          clear hM9
          go_wp2_with fail
          go_roundg mm
          case measure => omega
          case rel =>
            refine ⟨i + 1, by omega, rfl, Lib.hid (fun j hj => ?_), rfl⟩
            rcases Nat.lt_or_ge j i with h | h
            · exact hok.out j h
            · rw [show j = i by omega, HM.out]
              have := HM9.out
              omega
theorem sumM_bound (m : Nat → Nat) (K : Nat) : ∀ n, (∀ i, i < n → m i ≤ K) → sumM m n ≤ n * K
  | 0, _ => Nat.zero_le _
  | n + 1, h => by
    have h1 := sumM_bound m K n (fun i hi => h i (by omega))
    have h2 := h n (by omega)
    show sumM m n + m n ≤ (n + 1) * K
    rw [Nat.succ_mul]
    omega
theorem sumM_ge (m : Nat → Nat) (i n : Nat) (h : i < n) : m i ≤ sumM m n := by
  have h1 := sumM_le m (i + 1) n h
  have h2 : sumM m (i + 1) = sumM m i + m i := rfl
  omega

/-- A polygon's ends, counted from its own beginning. -/
theorem shift_from (a : Nat) (e : Nat → Nat) (r : Nat) : fromE 0 (fun j => e j - a) r = fromE a e r - a := by
  unfold fromE
  split
  · rw [Nat.sub_self]
  · rfl
theorem shift_up {s a : Nat} {e : Nat → Nat} {M : Nat} (h : EndsUp s a e M) : EndsUp s 0 (fun j => e j - a) M := fun r hr => by
  have h1 := h r hr
  have h2 := h.st_le r (by omega)
  rw [shift_from]
  show fromE a e r - a ≤ e r - a ∧ (e r - a - (fromE a e r - a)) % s = 0
  have h3 : e r - a - (fromE a e r - a) = e r - fromE a e r := by omega
  rw [h3]
  exact ⟨by omega, h1.2⟩
theorem shift_text (xs : Nat → Nat) (d : Int) (s a : Nat) (e : Nat → Nat) (M : Nat) (hs : 1 ≤ s) (h : EndsUp s a e M) :
    brackB (fun r => placesT (fun j => xs (a + (fromE 0 (fun j => e j - a) r + j))) d s ((e r - a) - fromE 0 (fun j => e j - a) r)) M = linesB xs d s a e M := by
  rw [linesB, brackB, brackB]
  rw [joinB_congr M (fun r hr => ?_)]
  have h1 := h r hr
  have h2 := h.st_le r (by omega)
  have h3 : e r - a - (fromE a e r - a) = e r - fromE a e r := by omega
  rw [shift_from, h3, ← placesT_line xs d s (fromE a e r) (e r) hs h1.2]
  congr 1
  funext j
  rw [show a + (fromE a e r - a + j) = fromE a e r + j by omega]

theorem partV_all {w : World} {k l : Int} {m : Nat} {ys : Nat → Nat} {en : Nat} {es : Nat → Nat} {cs : Array Value} (h : PartV w k l m ys en es cs) : ∃ fo fp eo ep, cs = #[.int .i64 k, .int .i64 l, .int .i64 0, .slice fo m fp, .slice eo en ep, .slice none 0 0, .slice none 0 0] ∧ FRowO w fo m ys ∧ IRow w eo en (fun j => (es j : Int)) ∧ m ≤ fp ∧ fp ≤ maxLen := by
  obtain ⟨fo, fp, eo, ep, h1, h2, h3, h4⟩ := h
  exact ⟨fo, fp, eo, ep, h1, h3.toO, h4.toO, h2.1, h2.2⟩
theorem place_len (xs : Nat → Nat) (d : Int) (s y : Nat) (p0 : -1 ≤ d) (p1 : d ≤ 20) (hy : y ≤ 2000) : (placesT xs d s y).length ≤ 1000000000 := by
  refine Nat.le_trans (placesT_length xs d s y p0 p1) ?_
  omega

/-- spec.body of a polygon that is a part. -/
theorem body_polygon (cb co n k s cap ec : Nat) (ao eo : Option Addr) (l : Int) (xs e : Nat → Nat) (d : Int) (w : World) (T : Tabs cb co w) (hr : FRowO w ao n xs) (hie : IRow w eo k (fun i => (e i : Int))) (hE : EndsUp s 0 e k) (hto : fromE 0 e k = n) (hn : n ≤ 2000) (hn0 : 0 < n) (hk : k ≤ 2000) (hk0 : 0 < k)
    (hs : 1 ≤ s) (hs9 : s ≤ 9) (hcap : n ≤ cap) (hcm : cap ≤ maxLen) (p0 : -1 ≤ d) (p1 : d ≤ 20) :
    Calls Tryd.prog 35 #[geomV 3 l 0 (.slice ao n cap) (.slice eo k ec) (.slice none 0 0) (.slice none 0 0), .int .i64 s, .int .i64 d, .bool false] w (BodyOut (brackB (fun i => placesT (fun j => xs (fromE 0 e i + j)) d s (e i - fromE 0 e i)) k) w) := by
  have hez : ∀ i, i < k → e i ≤ n := fun i hi => by
    have := hE.le (i + 1) k (by omega) (Nat.le_refl _)
    rw [fromE_succ] at this
    omega
  have hjl : ∀ q, q ≤ k → (joinB (fun i => placesT (fun j => xs (fromE 0 e i + j)) d s (e i - fromE 0 e i)) q).length ≤ 1000000000 := fun q hq => by
    have h := join_parts_length hE (fun i => placesT (fun j => xs (fromE 0 e i + j)) d s (e i - fromE 0 e i)) (fun i hi => by
      have h1 : (placesT (fun j => xs (fromE 0 e i + j)) d s (e i - fromE 0 e i)).length ≤ (e i - fromE 0 e i) * 20005 + 5 := placesT_length _ d s _ p0 p1
      refine Nat.le_trans h1 ?_
      generalize e i - fromE 0 e i = y
      omega) q hq
    refine Nat.le_trans h ?_
    have := hE.le q k hq (Nat.le_refl _)
    omega
  refine body_parts3 l s k ao eo none n cap k ec 0 0 d ⟨8, fun i => e i - fromE 0 e i, fun i j => xs (fromE 0 e i + j), fun _ => 0, fun _ _ => 0⟩ _ w hk0 hn0 (by omega) (fun w2 hw2 => ?_) (fun i w2 cs hi hw2 hv => ?_) hjl (fun i hi => ?_)
  · refine parts_any 3 l ao eo none none n cap k ec 0 0 0 0 _ k w2 (by omega) (fun w3 => numParts_ends 3 l _ _ _ eo k ec w3 (by omega)) (fun i w3 hi hw3 => ?_)
    have hb3 := hw2.trans (hw3.mono hw2.size)
    exact part3_any l ao eo _ _ n cap k ec i xs e w3 (hr.below hb3) (hie.below hb3) hi (hE i hi).1 (hez i hi) hcap hcm hn (by omega)
  · obtain ⟨fo, fp, eo', ep, rfl, hf⟩ := PartOut.bodyV hv
    exact body_leaf 8 l cb co _ fp s 0 ep fo eo' false _ d w2 (by omega) (T.below hw2) hf hs hs9 (by have := hez i hi; show e i - fromE 0 e i ≤ 2000; omega) p0 p1
  · exact place_len _ d s _ p0 p1 (by have := hez i hi; show e i - fromE 0 e i ≤ 2000; omega)

/-- Areas that are good: each polygon has numbers. -/
structure AreasHave (s n k : Nat) (m : Nat → Nat) (e : Nat → Nat → Nat) : Prop where
  up : AreasUp s m e k
  tot : fromA 0 m e k = n
  n2 : n ≤ 2000
  k2 : k ≤ 2000
  m2 : ∀ i, i < k → m i ≤ 2000
  sum : sumM m k ≤ 2000

theorem AreasHave.end_le {s n k : Nat} {m : Nat → Nat} {e : Nat → Nat → Nat} (h : AreasHave s n k m e) (i : Nat) (hi : i < k) : fromA 0 m e (i + 1) ≤ n := by
  have := h.up.le (i + 1) k (by omega) (Nat.le_refl _)
  have := h.tot
  omega

def areaSpec (xs m : Nat → Nat) (e : Nat → Nat → Nat) : PartSpec := ⟨3, fun i => fromA 0 m e (i + 1) - fromA 0 m e i, fun i j => xs (fromA 0 m e i + j), m, fun i j => e i j - fromA 0 m e i⟩
theorem areas_parts (n k s cap sc : Nat) (ao so : Option Addr) (l : Int) (xs m : Nat → Nat) (e : Nat → Nat → Nat) (w : World) (hr : FRowO w ao n xs) (hie : LRow w so k m (fun i j => (e i j : Int))) (h : AreasHave s n k m e) (hcap : n ≤ cap) (hcm : cap ≤ maxLen) (hsc : k ≤ sc) (hscm : sc ≤ maxLen) :
    Calls Tryd.prog 24 #[geomV 6 l 0 (.slice ao n cap) (.slice none 0 0) (.slice so k sc) (.slice none 0 0)] w (PartsOut l (areaSpec xs m e) k w) := by
  refine parts_any 6 l ao none so none n cap 0 0 k sc 0 0 _ k w (by have := h.k2; omega) (fun w3 => numParts_areas l _ _ _ so k sc w3) (fun i w3 hi hw3 => ?_)
  exact part6_any l s ao so _ _ n cap k sc i xs m e w3 (hr.below hw3) (hie.below hw3) hi h.up (by have := h.tot; omega) hcap hcm h.n2 (by have := h.k2; omega) hsc hscm (fun i hi => by have := h.m2 i hi; omega)

/-- spec.WriteWKT of good areas, each with numbers. -/
theorem areas_wkt (cb co n k s cap sc : Nat) (ao so : Option Addr) (l : Int) (xs m : Nat → Nat) (e : Nat → Nat → Nat) (d : Int) (w : World) (T : Tabs cb co w) (hr : FRowO w ao n xs) (hie : LRow w so k m (fun i j => (e i j : Int))) (h : AreasHave s n k m e) (hpos : ∀ i, i < k → fromA 0 m e i < fromA 0 m e (i + 1)) (hk0 : 0 < k)
    (hl1 : 1 ≤ l) (hl4 : l ≤ 4) (hls : strideI l = (s : Int)) (hs : 1 ≤ s) (hs9 : s ≤ 9) (hcap : n ≤ cap) (hcm : cap ≤ maxLen) (hsc : k ≤ sc) (hscm : sc ≤ maxLen) (p0 : -1 ≤ d) (p1 : d ≤ 20) :
    Calls Tryd.prog 16 #[geomV 6 l 0 (.slice ao n cap) (.slice none 0 0) (.slice so k sc) (.slice none 0 0), .int .i64 d] w fun e9 w' => e9 = .returned (.tuple #[.string (str (headB 6 l ++ areasB xs d s m e k)), .bool true]) ∧ Below w.heap.size w w' := by
  have hm0 : ∀ i, i < k → m i ≠ 0 := fun i hi hm => by
    have h1 := hpos i hi
    have h2 : fromA 0 m e (i + 1) = fromE (fromA 0 m e i) (e i) (m i) := rfl
    rw [h2, hm] at h1
    exact absurd h1 (Nat.lt_irrefl _)
  have hjl : ∀ q, q ≤ k → (joinB (areaB xs d s m e) q).length ≤ 1000000000 := fun q hq => by
    have h1 := join_areas_length xs d s m e p0 p1 hs h.up q hq
    have h2 := h.up.le q k hq (Nat.le_refl _)
    have h3 := sumM_le m q k hq
    have h4 := h.tot
    have h5 := h.n2
    have h6 := h.sum
    have h7 := h.k2
    refine Nat.le_trans h1 ?_
    generalize fromA 0 m e q = z at h2 ⊢
    generalize sumM m q = u at h3 ⊢
    omega
  refine wkt_any 6 l d _ _ _ _ _ w (by omega) hl1 hl4 (by rw [areasB, brackB_length]; have h1 := join_areas_length xs d s m e p0 p1 hs h.up k (Nat.le_refl _); have h4 := h.tot; have h5 := h.n2; have h6 := h.sum; have h7 := h.k2; rw [h4] at h1; omega) (fun w' hw' => ?_)
  rw [hls]
  refine body_parts6 l s k ao none so n cap 0 0 k sc true d (areaSpec xs m e) (areaB xs d s m e) w' hk0 (by have := h.k2; omega) (fun w2 hw2 => ?_) (fun i w2 cs hi hw2 hv => ?_) hjl (fun i hi => ?_)
  · have hb := hw'.trans (hw2.mono hw'.size)
    exact areas_parts n k s cap sc ao so l xs m e w2 (hr.below hb) (hie.below hb) h hcap hcm hsc hscm
  · have hb := hw'.trans (hw2.mono hw'.size)
    obtain ⟨fo, fp, eo', ep, rfl, hf, hi2, hc1, hc2⟩ := partV_all hv
    have hup := h.up i hi
    have hend := h.end_le i hi
    have hn2 := h.n2
    have hta : areaB xs d s m e i = brackB (fun r => placesT (fun j => (fun j => xs (fromA 0 m e i + j)) (fromE 0 (fun j => e i j - fromA 0 m e i) r + j)) d s ((fun j => e i j - fromA 0 m e i) r - fromE 0 (fun j => e i j - fromA 0 m e i) r)) (m i) := by
      rw [areaB, if_neg (hm0 i hi)]
      exact (shift_text xs d s (fromA 0 m e i) (e i) (m i) hs hup).symm
    rw [hta]
    have hto2 : fromE 0 (fun j => e i j - fromA 0 m e i) (m i) = fromA 0 m e (i + 1) - fromA 0 m e i := by rw [shift_from]; rfl
    exact body_polygon cb co _ (m i) s fp ep fo eo' l (fun j => xs (fromA 0 m e i + j)) (fun j => e i j - fromA 0 m e i) d w2 (T.below hb) hf hi2 (shift_up hup) hto2 (by show fromA 0 m e (i + 1) - fromA 0 m e i ≤ 2000; omega) (by have := hpos i hi; show 0 < fromA 0 m e (i + 1) - fromA 0 m e i; omega) (h.m2 i hi) (by have := hm0 i hi; omega) hs hs9 hc1 hc2 p0 p1
  · have h1 := areaB_length xs d s m e i p0 p1 hs (h.up i hi)
    have h2 := h.end_le i hi
    have h3 := h.m2 i hi
    have h4 := h.n2
    have h5 : fromE (fromA 0 m e i) (e i) (m i) - fromA 0 m e i ≤ 2000 := by
      have : fromA 0 m e (i + 1) = fromE (fromA 0 m e i) (e i) (m i) := rfl
      omega
    refine Nat.le_trans h1 ?_
    generalize fromE (fromA 0 m e i) (e i) (m i) - fromA 0 m e i = y at h5 ⊢
    omega

theorem LRow.congr {w : World} {so : Option Addr} {n : Nat} {m : Nat → Nat} {e f : Nat → Nat → Int} (h : LRow w so n m e) (he : ∀ i, i < n → ∀ j, j < m i → e i j = f i j) : LRow w so n m f := fun hn => by
  obtain ⟨b, o, h1, h2⟩ := h hn
  refine ⟨b, o, h1, fun i hi => ?_⟩
  obtain ⟨ao, cap, h3, h4, h5, h6⟩ := h2 i hi
  exact ⟨ao, cap, h3, h4, h5, h6.congr (he i hi)⟩

set_option maxRecDepth 100000 in
set_option maxHeartbeats 3200000 in
theorem fnAreasText_any (cb co n cap sn sc : Nat) (ao so : Option Addr) (xs mm : Nat → Nat) (ee : Nat → Nat → Int) (s d : Int) (w : World) (T : Tabs cb co w) (hr : FRowO w ao n xs) (hie : LRow w so sn mm ee) (hcap : n ≤ cap) (hcm : cap ≤ maxLen) (hsc : sn ≤ sc) (hscm : sc ≤ maxLen)
    (s0 : -9223372036854775808 ≤ s) (s1 : s ≤ 9223372036854775807) (d0 : -9223372036854775808 ≤ d) (d1 : d ≤ 9223372036854775807) :
    Calls Tryd.prog 7 #[.slice ao n cap, .slice so sn sc, .int .i64 s, .int .i64 d] w fun e w' => e = .returned (.bool true) ∧ Below w.heap.size w w' := by
  have hzf := zzFits3_any so sn sc mm ee w hie
  have HT := Lib.hid T
  have HR := Lib.hid hr
  have HM := Lib.hid hcm
  have HC := Lib.hid hcap
  have HIE := Lib.hid hie
  have HSC := Lib.hid hsc
  have HSM := Lib.hid hscm
  clear T hr hcm hcap hie hsc hscm
  by_cases hb : 2147483647 < n
  · have hb' : (2147483647 : Int) < (n : Int) := by omega
    clear hb
    go_enter Tryd.func7, Tryd.ntmps7
    go_wp2_with fail
    go_ret
    exact ⟨rfl, Below.refl _ _⟩
  have hb' : ¬ (2147483647 : Int) < (n : Int) := by omega
  have hxd := fun w' => xDigits_any d w' d0 d1
  obtain ⟨db, hdb⟩ : ∃ db, (decide (-1 ≤ d) && decide (d ≤ 20)) = db := ⟨_, rfl⟩
  rw [hdb] at hxd
  have HDB := Lib.hid hdb
  have HNB := Lib.hid hb
  clear hb hdb
  go_enter Tryd.func7, Tryd.ntmps7
  go_wp2_with fail
  refine hzf.mono ?_
  rintro en0 w0 ⟨fb, rfl, hfits, rfl⟩
  clear hzf
  cases fb with
  | false =>
    clear hfits hxd
    go_wp2_with fail
    go_ret
    exact ⟨rfl, Below.refl _ _⟩
  | true =>
  obtain ⟨hsn9, hm9⟩ := hfits rfl
  clear hfits
  have hsum := sumM_bound mm 2147483647 sn hm9
  have hprod : sn * 2147483647 ≤ 2147483647 * 2147483647 := Nat.mul_le_mul_right _ hsn9
  have hfr := fRowss_any ao so n cap sn sc mm ee s w (by have := HNB.out; omega) HIE.out
  have hsnI : (sn : Int) ≤ 2147483647 := by omega
  clear hsum hprod hm9 hsn9
  go_wp2_with fail
  refine hfr.mono ?_
  rintro en1 w1 ⟨k', l', a1, n1, e1, a2, n2, e2, a3, n3, e3, b, rfl, hok, hB1⟩
  clear hfr
  have hB2 : Below w.heap.size w (w1.alloc (.cells #[.int .i64 k', .int .i64 l', .int .i64 0, .slice a1 n1 e1, .slice a2 n2 e2, .slice a3 n3 e3, .slice none 0 0] 33)) := hB1.alloc hB1.size _
  cases b with
  | false =>
    clear hok hxd
    go_wp2_with fail
    go_ret
    exact ⟨rfl, hB2⟩
  | true =>
    obtain ⟨h2, h9, hgv, hsz, hg⟩ := hok rfl
    clear hok
    by_cases hs4 : 4 < s
    · clear hg hxd hsz hgv
      go_wp2_with fail
      go_ret
      exact ⟨rfl, hB2⟩
    have hs4' : ¬ (4 : Int) < s := hs4
    by_cases hn0 : sn = 0
    · have hn0' : ((sn : Int) == 0) = true := by rw [hn0]; rfl
      clear hg hsz hxd hgv
      go_wp2_with fail
      go_ret
      exact ⟨rfl, hB2⟩
    have hn0' : ((sn : Int) == 0) = false := by rw [beq_eq_false_iff_ne]; omega
    cases db with
    | false =>
      clear hg hsz hgv
      go_wp2_with fail
      refine (hxd _).mono ?_
      rintro en2 w2 ⟨rfl, rfl⟩
      clear hxd
      go_wp2_with fail
      go_ret
      exact ⟨rfl, hB2⟩
    | true =>
      obtain ⟨⟨tt, hga, htt⟩, _⟩ := hg.areas rfl
      obtain ⟨g1, g2, g3⟩ := hga rfl
      obtain ⟨S, rfl⟩ : ∃ S : Nat, s = S := ⟨s.toNat, by omega⟩
      rw [Int.toNat_natCast] at g2
      obtain ⟨e, he⟩ : ∃ e : Nat → Nat → Nat, natEE ee = e := ⟨_, rfl⟩
      have hie2 : LRow w so sn mm (fun i j => (e i j : Int)) := HIE.out.congr (fun i hi j hj => by rw [g1 i hi j hj, ← he]; rfl)
      rw [he] at g2 g3
      have hto : fromA 0 mm e sn = n := by rw [← g3, htt]
      have hah : AreasHave S n sn mm e := ⟨g2, hto, by omega, by omega, fun i hi => by have := sumM_ge mm i sn hi; omega, by omega⟩
      have p0 : -1 ≤ d := by have h := HDB.out; rw [Bool.and_eq_true, decide_eq_true_eq] at h; exact h.1
      have p1 : d ≤ 20 := by have h := HDB.out; rw [Bool.and_eq_true, decide_eq_true_eq, decide_eq_true_eq] at h; exact h.2
      have hl14 : 1 ≤ layI S ∧ layI S ≤ 4 := by unfold layI; split; omega; split <;> omega
      have hls := strideI_lay (S : Int) (by omega)
      unfold geomV at hgv
      simp only [Value.agg.injEq, Array.mk.injEq, List.cons.injEq, Value.int.injEq, Value.slice.injEq, true_and, and_true] at hgv
      obtain ⟨rfl, hL, ⟨i1, i2, i3⟩, ⟨rfl, rfl, rfl⟩, i4, i5, i6⟩ := hgv
      subst hL
      have j1 := i1.symm
      have j2 := i2.symm
      have j3 := i3.symm
      have j4 := i4.symm
      have j5 := i5.symm
      have j6 := i6.symm
      clear i1 i2 i3 i4 i5 i6
      subst j1 j2 j3 j4 j5 j6
      obtain ⟨L, hLL⟩ : ∃ L, layI S = L := ⟨_, rfl⟩
      rw [hLL] at hl14 hls hB2
      obtain ⟨W2, hW2⟩ : ∃ W2, (w1.alloc (.cells #[.int .i64 6, .int .i64 L, .int .i64 0, .slice ao n cap, .slice none 0 0, .slice so sn sc, .slice none 0 0] 33)) = W2 := ⟨_, rfl⟩
      have hbx : Box W2 w1.heap.size 33 (geomC 6 L 0 (.slice ao n cap) (.slice none 0 0) (.slice so sn sc) (.slice none 0 0)) := hW2 ▸ Box.new _ _ _
      rw [hW2] at hB2
      have HW2 := Lib.hid hW2
      have hps := areas_parts n sn S cap sc ao so L xs mm e W2 (HR.out.below hB2) (hie2.below hB2) hah HC.out HM.out HSC.out HSM.out
      have HAH := Lib.hid hah
      have HIE2 := Lib.hid hie2
      obtain ⟨c0, c1, c2, c3, c4, c5, c6⟩ := hbx.cells7
      have HBX := Lib.hid hbx
      have hsn2 : (sn : Int) ≤ 2000 := by have := hah.k2; omega
      rw [hLL]
      unfold geomV at hps
      clear hg hga g1 g2 g3 htt hto he hW2 hB1 hsz hie2 hah hbx hLL
      go_wp2_with fail
      refine (hxd _).mono ?_
      rintro en2 w2 ⟨rfl, rfl⟩
      clear hxd
      rw [HW2.out]
      clear HW2
      go_wp2_with fail
      refine hps.mono ?_
      rintro en3 w3 ⟨v, P, rfl, hown, hpok, hB3⟩
      clear hps
      have hBw := hB2.trans (hB3.mono hB2.size)
      obtain ⟨g, c, rfl⟩ := own_slice7 hown (by omega)
      have hown1 : w3.ownsRow _ 33 7 (.slice (some ⟨g, 0, none⟩) sn c) sn (partsL P sn) := hown
      have HOK := Lib.hid hpok
      have HPS : Hid (∀ j, j < sn → (P j).size = 7) := Lib.hid (fun j hj => (hpok j hj).size)
      have HOWN := Lib.hid hown1
      have hbx3 := HBX.out.below hB3
      have HBX3 := Lib.hid hbx3
      clear hown hown1 hpok hB3 hB2 c0 c1 c2 c3 c4 c5 c6 hbx3
      go_wp2_with fail
      go_loopg [51] sn (fun mk v51 wr => ∃ q : Nat, q + mk = sn ∧ v51 = .int .i64 (q : Int) ∧ Hid (∀ i, i < q → fromA 0 mm e i < fromA 0 mm e (i + 1)) ∧ Below w3.heap.size w3 wr)
      case atStart => exact ⟨0, by omega, rfl, Lib.hid (fun _ h => absurd h (by omega)), Below.refl _ _⟩
      case round =>
        obtain ⟨q, hq, rfl, hpos, hB⟩ := hrel
        have hBB : Below w.heap.size w wr := hBw.trans (hB.mono hBw.size)
        cases gk with
        | succ mk =>
          have hqn : (q : Int) < (sn : Int) := by omega
          obtain ⟨fo, fp, eo, ep, hcs, _⟩ := HOK.out q (by omega)
          have hrow := fun j hj v hv => part_row HOWN.out HPS.out (show q < sn by omega) hB j hj v hv
          rw [hcs] at hrow
          have r0 := hrow 0 (by decide) _ rfl
          have r1 := hrow 1 (by decide) _ rfl
          have r2 := hrow 2 (by decide) _ rfl
          have r3 := hrow 3 (by decide) _ rfl
          have r4 := hrow 4 (by decide) _ rfl
          have r5 := hrow 5 (by decide) _ rfl
          have r6 := hrow 6 (by decide) _ rfl
          rw [Nat.add_zero] at r0
          have hle := HAH.out.up.le q (q + 1) (by omega) (by omega)
          have hMd : (areaSpec xs mm e).m q = fromA 0 mm e (q + 1) - fromA 0 mm e q := rfl
          obtain ⟨M, hM⟩ : ∃ M, (areaSpec xs mm e).m q = M := ⟨_, rfl⟩
          rw [hM] at r3 hMd
          have HMd := Lib.hid hMd
          have HLE := Lib.hid hle
          clear hrow hcs hle hMd
          obtain ⟨ek, hek⟩ : ∃ ek, (areaSpec xs mm e).k = ek := ⟨_, rfl⟩
          obtain ⟨een, heen⟩ : ∃ een, (areaSpec xs mm e).en q = een := ⟨_, rfl⟩
          rw [hek] at r0
          rw [heen] at r4
          have hBA : Below w.heap.size w (wr.alloc (.cells #[.int .i64 ek, .int .i64 L, .int .i64 0, .slice fo M fp, .slice eo een ep, .slice none 0 0, .slice none 0 0] 33)) := hBB.alloc hBB.size _
          have hBA3 : Below w3.heap.size w3 (wr.alloc (.cells #[.int .i64 ek, .int .i64 L, .int .i64 0, .slice fo M fp, .slice eo een ep, .slice none 0 0, .slice none 0 0] 33)) := hB.alloc hB.size _
          clear hek heen hM
          by_cases hM0 : M = 0
          · have hM0' : ((M : Int) == 0) = true := by rw [hM0]; rfl
            clear hM0
            go_wp2_with fail
            go_ret
            exact ⟨rfl, hBA⟩
          · have hM0' : ((M : Int) == 0) = false := by rw [beq_eq_false_iff_ne]; omega
            have HM0 := Lib.hid hM0
            clear hM0
            go_wp2_with fail
            go_roundg mk
            case measure => omega
            case rel =>
              refine ⟨q + 1, by omega, rfl, Lib.hid (fun i hi => ?_), hBA3⟩
              rcases Nat.lt_or_ge i q with h | h
              · exact hpos.out i h
              · rw [show i = q by omega]
                have h1 := HMd.out
                have h2 := HM0.out
                have h3 := HLE.out
                omega
        | zero =>
          have hqn : q = sn := by omega
          subst hqn
          have hah := HAH.out
          have hposA := hpos.out
          have hS1 : 1 ≤ S := by omega
          have hwk := areas_wkt cb co n q S cap sc ao so L xs mm e d wr (HT.out.below hBB) (HR.out.below hBB) (HIE2.out.below hBB) hah hposA (by omega) hl14.1 hl14.2 hls hS1 (by omega) HC.out HM.out HSC.out HSM.out p0 p1
          have hl1 := join_areas_length xs d S mm e p0 p1 hS1 hah.up q (Nat.le_refl _)
          rw [hah.tot] at hl1
          have hlt := fun w' (hw' : Below w.heap.size w w') => AreasText_any cb co n q S cap sc ao so xs mm e d w' (HT.out.below hw') (HR.out.below hw') (HIE2.out.below hw') hah.up (by have := hah.tot; omega) hS1 HC.out HM.out p0 p1 (by have := hah.n2; have := hah.sum; have := hah.k2; omega)
          have hxf := fun w' => xFrom_any (headB 6 L) (joinB (areaB xs d S mm e) q ++ [41]) w' (head_no40 _ _) (by
            have h1 := head_length 6 L
            have := hah.n2
            have := hah.sum
            have := hah.k2
            rw [List.length_append, List.length_append, List.length_append, List.length_singleton, List.length_singleton]
            omega)
          have e1 : headB 6 L ++ areasB xs d S mm e q = headB 6 L ++ [40] ++ (joinB (areaB xs d S mm e) q ++ [41]) := by
            rw [areasB, brackB]; simp [List.append_assoc]
          have e2 : [40] ++ (joinB (areaB xs d S mm e) q ++ [41]) = areasB xs d S mm e q := by
            rw [areasB, brackB]; simp
          rw [← e1, e2] at hxf
          obtain ⟨WT, hWT⟩ : ∃ WT, str (headB 6 L ++ areasB xs d S mm e q) = WT := ⟨_, rfl⟩
          obtain ⟨LT, hLT⟩ : ∃ LT, str (areasB xs d S mm e q) = LT := ⟨_, rfl⟩
          rw [hWT] at hwk hxf
          rw [hLT] at hlt hxf
          have HLT := Lib.hid hlt
          obtain ⟨c0, c1, c2, c3, c4, c5, c6⟩ := (HBX3.out.below hB).cells7
          unfold geomV at hwk
          clear e1 e2 hWT hLT hlt hah hposA hl1 hpos
          go_wp2_with fail
          refine hwk.mono ?_
          rintro en4 w4 ⟨rfl, hB4⟩
          clear hwk c0 c1 c2 c3 c4 c5 c6
          have hB5 := hBB.trans (hB4.mono hBB.size)
          have hlt2 := HLT.out w4 hB5
          go_wp2_with fail
          refine hlt2.mono ?_
          rintro en5 w5 ⟨rfl, hB6⟩
          clear hlt2
          go_wp2_with fail
          refine (hxf _).mono ?_
          rintro en6 w6 ⟨rfl, rfl⟩
          clear hxf
          go_wp2_with fail
          go_ret
          exact ⟨retb (by simp), hB5.trans (hB6.mono hB5.size)⟩
end Go.Proofs.YtodihpaabkplhaaDoor
