/- spec.Part at kind 4. spec.body of points: kind 4. spec.WriteWKT of points. -/
import Derived.Test.YtodihpaabkplhaaDoorPrt
import Derived.Test.YtodihpaabkplhaaDoorBdy
import Derived.Test.YtodihpaabkplhaaDoorWkt

namespace Go.Proofs.YtodihpaabkplhaaDoor
open Go.RowKit

set_option maxRecDepth 100000 in
set_option maxHeartbeats 3200000 in
theorem part4_any {sr : Int} (l : Int) (fa ea : Option Addr) (sv kv : Value) (fn fc en ec i : Nat) (xs e : Nat → Nat) (w : World) (hr : FRowO w fa fn xs) (hie : IRow w ea en (fun j => (e j : Int))) (hi : i < en) (ha : fromE 0 e i ≤ e i) (hz : e i ≤ fn) (hfc : fn ≤ fc) (hfm : fc ≤ maxLen) (hn : fn ≤ 2000) (hen : en ≤ 100000) :
    Calls Tryd.prog 43 #[geomV 4 l sr (.slice fa fn fc) (.slice ea en ec) sv kv, .int .i64 i] w (PartOut 1 l (fun j => xs (fromE 0 e i + j)) (e i - fromE 0 e i) 0 (fun _ => 0) w) := by
  obtain ⟨W2, hW2, hg, hz0, hB2, hs2⟩ := two_boxes w (geomC 4 l sr (.slice fa fn fc) (.slice ea en ec) sv kv) zeroC
  unfold zeroC geomC at hW2
  have HW2 := Lib.hid hW2
  obtain ⟨ib, io, rfl, hcel⟩ := hie (by omega)
  have ce : W2.cell? ⟨ib, io + i, none⟩ = some (.int .i64 ((e i : Nat) : Int)) := cell_kept hB2 (hcel i hi).1
  have hko := fun w' => kidOf_any 4 w' (by decide) (by decide)
  obtain ⟨c0, c1, c2, c3, c4, c5, c6⟩ := hg.cells7
  have hin : (i : Int) < (en : Int) := by omega
  have hiI : (i : Int) ≤ 100000 := by omega
  have n1 : w.heap.size ≠ w.heap.size + 1 := by omega
  have n2 : ib ≠ w.heap.size + 1 := by have := World.block_lt_of_cell? w _ (hcel i hi).1; simp at this; omega
  obtain ⟨z, hze⟩ : ∃ z, e i = z := ⟨_, rfl⟩
  obtain ⟨a, hae⟩ : ∃ a, fromE 0 e i = a := ⟨_, rfl⟩
  rw [hze] at ce ha hz ⊢
  rw [hae] at ha ⊢
  have HAE := Lib.hid hae
  have HCEL := Lib.hid hcel
  have N1 := Lib.hid n1
  have N2 := Lib.hid n2
  clear hW2 hie hze hae hcel n1 n2
  unfold geomV
  go_enter Tryd.func43, Tryd.ntmps43
  go_upto_region 1 with fail
  rw [HW2.out]
  clear HW2
  go_upto_if 78 with fail
  go_cut [12] (fun v wx => v = .int .i64 (a : Int) ∧ wx = W2)
  case first =>
    by_cases h0 : i = 0
    · subst h0
      have ha0 : a = 0 := HAE.out.symm
      subst ha0
      have z0 : ((0 : Nat) : Int) = 0 := rfl
      rw [z0]
      clear z0 ce
      go_wp2_with fail
      go_meet
      exact ⟨rfl, rfl⟩
    · have h0' : (0 : Int) < (i : Int) := by omega
      obtain ⟨p, hp⟩ : ∃ p, i = p + 1 := ⟨i - 1, by omega⟩
      have cp : W2.cell? ⟨ib, io + p, none⟩ = some (.int .i64 ((e p : Nat) : Int)) := cell_kept hB2 (HCEL.out p (by omega)).1
      have hfe : e p = a := by rw [← HAE.out, hp, fromE_succ]
      rw [hfe] at cp
      have hp1 : (i : Int) - 1 = (p : Int) := by omega
      have hpn : (p : Int) < (en : Int) := by omega
      have hpI : (p : Int) ≤ 100000 := by omega
      clear h0 hfe hp
      go_wp2_with fail
      go_meet
      exact ⟨rfl, rfl⟩
  case rest =>
    obtain ⟨rfl, rfl⟩ := hcut
    rename_i K hK
    refine hK _ _ ?_
    clear hK
    have hi0 : (0 : Int) ≤ (i : Int) := by omega
    have hcmI : (fc : Int) ≤ 9223372036854775807 := by unfold maxLen at hfm; omega
    have HFM := Lib.hid hfm
    clear hfm
    have haz : a < z ∨ a = z := by omega
    rcases haz with haz | haz
    · obtain ⟨fb, fo, rfl, hx⟩ := hr (by omega)
      have h1 : (a : Int) ≤ (z : Int) := by omega
      have h2 : (z : Int) ≤ (fc : Int) := by omega
      have hne : ¬ fc = a := by omega
      have hsb : ((z : Int) - (a : Int)).toNat = z - a := by omega
      obtain ⟨i0, hi0', hz0', hz1, hz2⟩ := info_parts info_f64
      have hsrc := src_cells (o := .cells #[] 24) (a := a) (m := z - a) hx hB2 (by omega)
      have hlit := World.ownsRow_lit (e := 24) (size := 1) (base := w.heap.size) wc #[] 0 (by omega) (by decide) (by rfl)
      have hy : ∀ j, j < z - a → xs (a + j) < 18446744073709551616 := fun j hj => (hx (a + j) (by omega)).2
      have HY := Lib.hid hy
      have hq1 : 0 < z - a := by omega
      have hq2 : 0 + (z - a) ≤ maxLen := by unfold maxLen; omega
      have hq3 : (0 + (z - a)) * 8 ≤ 140737488355328 := by omega
      have hq4 : w.heap.size ≤ (wc.alloc (.cells #[] 24)).drew.heap.size := by show w.heap.size ≤ (wc.heap.push _).size; simp; omega
      have hq5 : (fltL (fun j => xs (a + j)) (z - a)).length = (z - a) * 1 := by rw [fltL_length, Nat.mul_one]
      have hq6 := fltL_one (fun j => xs (a + j)) (z - a)
      have hzc := fun (w1 : World) (hg : (wc.alloc (.cells #[] 24)).drew.grownBy w1 (some wc.heap.size)) => (Box.grownD hz0 hg).cells7
      have hzf := fun (w1 : World) (hg : (wc.alloc (.cells #[] 24)).drew.grownBy w1 (some wc.heap.size)) => (Box.grownD hz0 hg).frozen7
      have n1 := N1.out
      have n2 := N2.out
      have HQ2 := Lib.hid hq2
      have HQ3 := Lib.hid hq3
      have HQ5 := Lib.hid hq5
      have HQ6 := Lib.hid hq6
      have HZC := Lib.hid hzc
      have HZF := Lib.hid hzf
      have HSRC := Lib.hid hsrc
      have HLIT := Lib.hid hlit
      clear hq2 hq3 hq5 hq6 hzc hzf hsrc hlit hr hx hy
      go_wp2_with fail
      refine (hko _).mono ?_
      rintro en1 w1 ⟨rfl, rfl⟩
      clear hko
      go_wp2_with fail
      go_region_held3 (fun x => x.cell? ⟨w.heap.size, 1, none⟩ = some (.int .i64 l) ∧ x.cell? ⟨w.heap.size, 3, none⟩ = some (.slice (some ⟨fb, fo, none⟩) fn fc) ∧ x.cell? ⟨w.heap.size, 4, none⟩ = some (.slice (some ⟨ib, io, none⟩) en ec) ∧ x.cell? ⟨ib, io + i, none⟩ = some (.int .i64 (z : Int)))
        (first | (with_reducible exact ⟨e1, e3, e4, e5⟩) | (with_reducible exact ⟨(far7 n1 e1 _ _ _ _ _ _ _), (far7 n1 e3 _ _ _ _ _ _ _), (far7 n1 e4 _ _ _ _ _ _ _), (far7 n2 e5 _ _ _ _ _ _ _)⟩) | go_keep)
        ((refine step_append_lies _ (by rfl) _ _ _ (by rfl) w.heap.size 24 i0 _ 1 8 Tryd.underlying22 hi0' hz0' hz1 hz2 rfl (by decide) (.slice (some ⟨wc.heap.size, 0, none⟩) 0 0) 0 [] (by rfl) HLIT.out ⟨fb, fo + a, none⟩ (z - a) (fc - a) (fltL (fun j => xs (a + j)) (z - a)) (by rfl) HQ5.out HSRC.out HQ6.out hq1 HQ2.out HQ3.out hq4 _ rfl ?_; intro g cap w1 hown1 hgrow hat hlt; have e1 := grown_cell c1 hgrow; have e3 := grown_cell c3 hgrow; have e4 := grown_cell c4 hgrow; have e5 := grown_cell ce hgrow; obtain ⟨z0, z1, z2, z3, z4, z5, z6⟩ := HZC.out w1 hgrow; obtain ⟨y0, y1, y2, y3, y4, y5, y6⟩ := HZF.out w1 hgrow))
      go_wp2_with fail
      have hb3 := grown_below hB2 hgrow
      exact bodyPost_ret (v := .agg #[.int .i64 1, .int .i64 l, .int .i64 0, .slice (some ⟨g, 0, none⟩) (z - a) cap, .slice none 0 0, .slice none 0 0, .slice none 0 0]) (by simp [results, Tryd.results43, go_sem, z0, z1, z2, z3, z4, z5, z6]) rfl (part_out hown1 HY.out hb3 (by
        rcases hat with h | h
        · have : wc.heap.size = g := by simpa [Value.ownBlock] using h
          omega
        · rw [h]
          show w.heap.size + 1 < (wc.heap.push _).size
          simp
          omega))
    · subst haz
      have hsb : ((a : Int) - (a : Int)).toNat = 0 := by omega
      have h1 : (a : Int) ≤ (a : Int) := Int.le_refl _
      have h2 : (a : Int) ≤ (fc : Int) := by omega
      have n1 := N1.out
      have n2 := N2.out
      have hb3 : Below w.heap.size w (wc.alloc (.cells #[] 24)).drew := (hB2.alloc hB2.size _).drew
      obtain ⟨z0, z1, z2, z3, z4, z5, z6⟩ := (Box.below hz0 ((Below.refl _ _).alloc (Nat.le_refl _) (.cells #[] 24))).cells7
      obtain ⟨y0, y1, y2, y3, y4, y5, y6⟩ := (Box.below hz0 ((Below.refl _ _).alloc (Nat.le_refl _) (.cells #[] 24))).frozen7
      have e1 := cell_kept ((Below.refl _ _).alloc (Nat.le_refl _) (.cells #[] 24)) c1
      have e3 := cell_kept ((Below.refl _ _).alloc (Nat.le_refl _) (.cells #[] 24)) c3
      have e4 := cell_kept ((Below.refl _ _).alloc (Nat.le_refl _) (.cells #[] 24)) c4
      have e5 := cell_kept ((Below.refl _ _).alloc (Nat.le_refl _) (.cells #[] 24)) ce
      have hfa : fa = none ∨ ∃ ad, fa = some ad := by cases fa with | none => exact Or.inl rfl | some ad => exact Or.inr ⟨ad, rfl⟩
      clear hr
      go_wp2_with fail
      refine (hko _).mono ?_
      rintro en1 w1 ⟨rfl, rfl⟩
      clear hko
      go_wp2_with fail
      rcases hfa with rfl | ⟨ad, rfl⟩
      · go_region_held3 (fun x => x.cell? ⟨w.heap.size, 1, none⟩ = some (.int .i64 l) ∧ x.cell? ⟨w.heap.size, 3, none⟩ = some (.slice none fn fc) ∧ x.cell? ⟨w.heap.size, 4, none⟩ = some (.slice (some ⟨ib, io, none⟩) en ec) ∧ x.cell? ⟨ib, io + i, none⟩ = some (.int .i64 (a : Int)))
          (first | (with_reducible exact ⟨(far7d n1 e1 _ _ _ _ _ _ _), (far7d n1 e3 _ _ _ _ _ _ _), (far7d n1 e4 _ _ _ _ _ _ _), (far7d n2 e5 _ _ _ _ _ _ _)⟩) | go_keep)
          (fail)
        go_wp2_with fail
        exact bodyPost_ret (v := .agg #[.int .i64 1, .int .i64 l, .int .i64 0, .slice (some ⟨wc.heap.size, 0, none⟩) 0 0, .slice none 0 0, .slice none 0 0, .slice none 0 0]) (by simp [results, Tryd.results43, go_sem, z0, z1, z2, z3, z4, z5, z6]) rfl (part_nil (hB2.alloc hB2.size _) _ _ _ _ _ _ _)
      · by_cases hne : fc = a
        all_goals
          go_region_held3 (fun x => x.cell? ⟨w.heap.size, 1, none⟩ = some (.int .i64 l) ∧ x.cell? ⟨w.heap.size, 3, none⟩ = some (.slice (some ad) fn fc) ∧ x.cell? ⟨w.heap.size, 4, none⟩ = some (.slice (some ⟨ib, io, none⟩) en ec) ∧ x.cell? ⟨ib, io + i, none⟩ = some (.int .i64 (a : Int)))
            (first | (with_reducible exact ⟨(far7d n1 e1 _ _ _ _ _ _ _), (far7d n1 e3 _ _ _ _ _ _ _), (far7d n1 e4 _ _ _ _ _ _ _), (far7d n2 e5 _ _ _ _ _ _ _)⟩) | go_keep)
            (fail)
          go_wp2_with fail
          exact bodyPost_ret (v := .agg #[.int .i64 1, .int .i64 l, .int .i64 0, .slice (some ⟨wc.heap.size, 0, none⟩) 0 0, .slice none 0 0, .slice none 0 0, .slice none 0 0]) (by simp [results, Tryd.results43, go_sem, z0, z1, z2, z3, z4, z5, z6]) rfl (part_nil (hB2.alloc hB2.size _) _ _ _ _ _ _ _)

end Go.Proofs.YtodihpaabkplhaaDoor

namespace Go.Proofs.YtodihpaabkplhaaDoor
open Go.RowKit

theorem PartOut.bodyV' {w : World} {k l : Int} {m : Nat} {ys : Nat → Nat} {en : Nat} {es : Nat → Nat} {cs : Array Value} (h : PartV w k l m ys en es cs) : ∃ fo fp eo ep, cs = #[.int .i64 k, .int .i64 l, .int .i64 0, .slice fo m fp, .slice eo en ep, .slice none 0 0, .slice none 0 0] ∧ FRowO w fo m ys := by
  obtain ⟨fo, fp, eo, ep, h1, _, h3, _⟩ := h
  exact ⟨fo, fp, eo, ep, h1, h3.toO⟩
theorem str_mid (l : List UInt8) : ByteArray.extract (str ([40] ++ l ++ [41])) 1 ((str ([40] ++ l ++ [41])).size - 1) = str l := by
  have h1 : (str ([40] ++ l ++ [41])).size - 1 = l.length + 1 := by rw [str_size]; simp
  rw [h1]
  apply ByteArray.ext
  rw [ByteArray.data_extract]
  show ([40] ++ l ++ [41]).toArray.extract 1 (l.length + 1) = l.toArray
  apply Array.toList_inj.1
  simp

set_option maxRecDepth 100000 in
set_option maxHeartbeats 3200000 in
theorem body_parts4 {sr : Int} {ka : Option Addr} {kc : Nat} (l : Int) (s n : Nat) (fa ea sa : Option Addr) (fn fc en ec sn sc : Nat) (wh : Bool) (d : Int) (sp : PartSpec) (f : Nat → List UInt8) (w : World) (hn : 0 < n) (hn9 : n ≤ 100000)
    (hps : ∀ w', Below w.heap.size w w' → Calls Tryd.prog 24 #[geomV 4 l sr (.slice fa fn fc) (.slice ea en ec) (.slice sa sn sc) (.slice ka 0 kc)] w' (PartsOut l sp n w'))
    (hbd : ∀ i w' cs, i < n → sp.m i = 0 → Below w.heap.size w w' → PartV w' sp.k l (sp.m i) (sp.ys i) (sp.en i) (sp.es i) cs → Calls Tryd.prog 35 #[.agg cs, .int .i64 s, .int .i64 d, .bool false] w' (BodyOut (f i) w'))
    (hpl : ∀ i w' fo fp, i < n → sp.m i ≠ 0 → Below w.heap.size w w' → FRowO w' fo (sp.m i) (sp.ys i) → Calls Tryd.prog 54 #[.slice fo (sp.m i) fp, .int .i64 s, .int .i64 d] w' fun e9 w2 => e9 = .returned (.string (str ([40] ++ f i ++ [41]))) ∧ Below w'.heap.size w' w2)
    (hlen : ∀ q, q ≤ n → (joinB f q).length ≤ 1000000000) (hlf : ∀ i, i < n → (f i).length ≤ 1000000000) :
    Calls Tryd.prog 35 #[geomV 4 l sr (.slice fa fn fc) (.slice ea en ec) (.slice sa sn sc) (.slice ka 0 kc), .int .i64 s, .int .i64 d, .bool wh] w (BodyOut (brackB f n) w) := by
  obtain ⟨hbx, hB⟩ := boxed w 4 l sr (.slice fa fn fc) (.slice ea en ec) (.slice sa sn sc) (.slice ka 0 kc)
  have hps := hps _ hB
  have HBD := Lib.hid hbd
  have HPL := Lib.hid hpl
  have HLEN := Lib.hid hlen
  have HLF := Lib.hid hlf
  have hnI : (n : Int) ≤ 100000 := by omega
  have hn0 : ((n : Int) == 0) = false := by rw [beq_eq_false_iff_ne]; omega
  clear hbd hpl hlen hlf
  unfold geomV at hps ⊢
  go_enter Tryd.func35, Tryd.ntmps35
  go_wp2_with fail
  refine hps.mono ?_
  rintro en1 w1 ⟨v, P, rfl, hown, hok, hB1⟩
  clear hps
  have hbx1 := hbx.below hB1
  have hBw := hB.trans (hB1.mono hB.size)
  obtain ⟨g, c, rfl⟩ := own_slice7 hown hn
  obtain ⟨c0, c1, c2, c3, c4, c5, c6⟩ := hbx1.cells7
  have HOK := Lib.hid hok
  have hPs : ∀ j, j < n → (P j).size = 7 := fun j hj => (hok j hj).size
  have HPS := Lib.hid hPs
  have hown1 : w1.ownsRow _ 33 7 (.slice (some ⟨g, 0, none⟩) n c) n (partsL P n) := hown
  have HOWN := Lib.hid hown1
  have HBX := Lib.hid hbx1
  clear hB hB1 hbx hbx1 hok hPs hown hown1
  go_wp2_with fail
  go_loopg [55, 11, 9] n (fun m v55 v11 v9 wr => ∃ q : Nat, q + m = n ∧ v55 = .int .i64 (q : Int) ∧ v11 = .string (str ([40] ++ joinB f q)) ∧ v9 = .bool true ∧ Below w1.heap.size w1 wr)
  case atStart => exact ⟨0, by omega, rfl, rfl, rfl, Below.refl _ _⟩
  case round =>
    clear c0 c1 c2 c3 c4 c5 c6
    obtain ⟨q, hq, rfl, rfl, rfl, hB⟩ := hrel
    have hBB : Below w.heap.size w wr := hBw.trans (hB.mono hBw.size)
    have hl1 := HLEN.out q (by omega)
    cases gk with
    | zero =>
      have hqn : q = n := by omega
      subst hqn
      have hst := str41p f q
      have hz : ¬ 9223372036854775807 < (str ([40] ++ joinB f q)).size + 1 := by rw [str_size, List.length_append, List.length_singleton]; omega
      obtain ⟨L, hL⟩ : ∃ L, str ([40] ++ joinB f q) = L := ⟨_, rfl⟩
      obtain ⟨R, hR⟩ : ∃ R, str (brackB f q) = R := ⟨_, rfl⟩
      rw [hL, hR] at hst
      rw [hL] at hz
      rw [hL]
      have HRR := Lib.hid hR
      clear hL hR hl1
      go_wp2_with fail
      go_ret2
      exact ⟨by rw [HRR.out]; rfl, hBB⟩
    | succ m =>
      have hqn : (q : Int) < (n : Int) := by omega
      obtain ⟨fo, fp, eo, ep, hcs, hfr⟩ := PartOut.bodyV' (HOK.out q (by omega))
      have hrow := fun j hj v hv => part_row HOWN.out HPS.out (show q < n by omega) hB j hj v hv
      rw [hcs] at hrow
      have r0 := hrow 0 (by decide) _ rfl
      have r1 := hrow 1 (by decide) _ rfl
      have r2 := hrow 2 (by decide) _ rfl
      have r3 := hrow 3 (by decide) _ rfl
      have r4 := hrow 4 (by decide) _ rfl
      have r5 := hrow 5 (by decide) _ rfl
      have r6 := hrow 6 (by decide) _ rfl
      rw [Nat.add_zero] at r0
      obtain ⟨c0, c1, c2, c3, c4, c5, c6⟩ := (HBX.out.below hB).cells7
      have hBA : Below w.heap.size w (wr.alloc (.cells #[.int .i64 sp.k, .int .i64 l, .int .i64 0, .slice fo (sp.m q) fp, .slice eo (sp.en q) ep, .slice none 0 0, .slice none 0 0] 33)) := hBB.alloc hBB.size _
      have hBA1 : Below w1.heap.size w1 (wr.alloc (.cells #[.int .i64 sp.k, .int .i64 l, .int .i64 0, .slice fo (sp.m q) fp, .slice eo (sp.en q) ep, .slice none 0 0, .slice none 0 0] 33)) := hB.alloc hB.size _
      have hBox := (boxed wr sp.k l 0 (.slice fo (sp.m q) fp) (.slice eo (sp.en q) ep) (.slice none 0 0) (.slice none 0 0)).1
      have q0 := fun o => cell_kept ((Below.refl wr.heap.size wr).alloc (Nat.le_refl _) o) c0
      have hl2 := HLF.out q (by omega)
      have hj1 : joinB f (q + 1) = joinB f q ++ sepB q ++ f q := rfl
      have HJ1 := Lib.hid hj1
      clear hrow hj1
      by_cases hm : sp.m q = 0
      · have hmI : ¬ (0 : Int) < ((sp.m q : Nat) : Int) := by omega
        have hbody := HBD.out q _ _ (by omega) hm hBA (by have h := (HOK.out q (by omega)).below hBA1; rw [hcs] at h; exact h)
        clear hm hfr hcs
        by_cases h0 : q = 0
        · subst h0
          have hst : str ([40] ++ joinB f 0) ++ str (f 0) = str ([40] ++ joinB f (0 + 1)) := by rw [str_append, HJ1.out]; rfl
          have hz : ¬ 9223372036854775807 < (str ([40] ++ joinB f 0)).size + (str (f 0)).size := by rw [str_size, str_size, List.length_append, List.length_singleton]; omega
          unfold BodyOut at hbody
          obtain ⟨L, hL⟩ : ∃ L, str ([40] ++ joinB f 0) = L := ⟨_, rfl⟩
          obtain ⟨F, hF⟩ : ∃ F, str (f 0) = F := ⟨_, rfl⟩
          obtain ⟨R, hR⟩ : ∃ R, str ([40] ++ joinB f (0 + 1)) = R := ⟨_, rfl⟩
          rw [hL, hF, hR] at hst
          rw [hL, hF] at hz
          rw [hF] at hbody
          rw [hL]
          have HRR := Lib.hid hR
          have z0 : ((0 : Nat) : Int) = 0 := rfl
          rw [z0]
          rw [Nat.zero_mul] at r0 r1 r2 r3 r4 r5 r6
          clear hL hF hR hl1 hl2 z0
          go_wp2_with fail
          refine hbody.mono ?_
          rintro en2 w2 ⟨rfl, hB2⟩
          clear hbody r0 r1 r2 r3 r4 r5 r6 c0 c1 c2 c3 c4 c5 c6 q0
          go_wp2_with fail
          go_roundg m
          case measure => omega
          case rel => exact ⟨1, by omega, rfl, by rw [HRR.out], rfl, hBA1.trans (hB2.mono hBA1.size)⟩
        · have h1 : (0 : Int) < (q : Int) := by omega
          have hst : str ([40] ++ joinB f q) ++ str [44, 32] ++ str (f q) = str ([40] ++ joinB f (q + 1)) := by
            rw [str_append, str_append, HJ1.out, sepB_pos h0]
            simp [List.append_assoc]
          have hz1 : ¬ 9223372036854775807 < (str ([40] ++ joinB f q)).size + 2 := by rw [str_size, List.length_append, List.length_singleton]; omega
          have hz2 : ¬ 9223372036854775807 < (str ([40] ++ joinB f q) ++ str [44, 32]).size + (str (f q)).size := by rw [str_append, str_size, str_size, List.length_append, List.length_append, List.length_singleton]; simp; omega
          change str ([40] ++ joinB f q) ++ (⟨#[44, 32]⟩ : ByteArray) ++ _ = _ at hst
          unfold BodyOut at hbody
          obtain ⟨L, hL⟩ : ∃ L, str ([40] ++ joinB f q) = L := ⟨_, rfl⟩
          obtain ⟨F, hF⟩ : ∃ F, str (f q) = F := ⟨_, rfl⟩
          obtain ⟨R, hR⟩ : ∃ R, str ([40] ++ joinB f (q + 1)) = R := ⟨_, rfl⟩
          obtain ⟨L2, hL2⟩ : ∃ L2, L ++ (⟨#[44, 32]⟩ : ByteArray) = L2 := ⟨_, rfl⟩
          change ¬ 9223372036854775807 < (str ([40] ++ joinB f q) ++ (⟨#[44, 32]⟩ : ByteArray)).size + _ at hz2
          rw [hL, hF, hR, hL2] at hst
          rw [hL] at hz1
          rw [hL, hF, hL2] at hz2
          rw [hF] at hbody
          rw [hL]
          have HRR := Lib.hid hR
          clear hL hF hR hl1 hl2 h0
          go_wp2_with fail
          refine hbody.mono ?_
          rintro en2 w2 ⟨rfl, hB2⟩
          clear hbody r0 r1 r2 r3 r4 r5 r6 c0 c1 c2 c3 c4 c5 c6 q0
          go_wp2_with fail
          go_roundg m
          case measure => omega
          case rel => exact ⟨q + 1, by omega, rfl, by rw [HRR.out], rfl, hBA1.trans (hB2.mono hBA1.size)⟩
      · have hmI : (0 : Int) < ((sp.m q : Nat) : Int) := by omega
        have hplc := HPL.out q _ fo fp (by omega) hm hBA ((hfr.below hB).below ((Below.refl wr.heap.size wr).alloc (Nat.le_refl _) _))
        have hl2 := HLF.out q (by omega)
        obtain ⟨P, hP⟩ : ∃ P, str ([40] ++ f q ++ [41]) = P := ⟨_, rfl⟩
        obtain ⟨N, hN⟩ : ∃ N, (f q).length + 1 = N := ⟨_, rfl⟩
        have hPN : P.size = N + 1 := by rw [← hP, str_size, ← hN]; simp
        have hsl : P.extract 1 N = str (f q) := by rw [← str_mid (f q), hP, hPN]; rfl
        have hN1 : 1 ≤ N := by omega
        have hN9 : N ≤ 2000000000 := by omega
        have hw1 : wrap64 (((N + 1 : Nat) : Int) - 1) = (N : Int) := by unfold wrap64; omega
        rw [hP] at hplc
        clear hP hN
        clear hm hfr hcs
        by_cases h0 : q = 0
        · subst h0
          have hst : str ([40] ++ joinB f 0) ++ str (f 0) = str ([40] ++ joinB f (0 + 1)) := by rw [str_append, HJ1.out]; rfl
          have hz : ¬ 9223372036854775807 < (str ([40] ++ joinB f 0)).size + (str (f 0)).size := by rw [str_size, str_size, List.length_append, List.length_singleton]; omega
          obtain ⟨L, hL⟩ : ∃ L, str ([40] ++ joinB f 0) = L := ⟨_, rfl⟩
          obtain ⟨F, hF⟩ : ∃ F, str (f 0) = F := ⟨_, rfl⟩
          obtain ⟨R, hR⟩ : ∃ R, str ([40] ++ joinB f (0 + 1)) = R := ⟨_, rfl⟩
          rw [hL, hF, hR] at hst
          rw [hF] at hsl
          rw [hL, hF] at hz
          rw [hL]
          have HRR := Lib.hid hR
          have z0 : ((0 : Nat) : Int) = 0 := rfl
          rw [z0]
          rw [Nat.zero_mul] at r0 r1 r2 r3 r4 r5 r6
          clear hL hF hR hl1 hl2 z0
          go_wp2_with fail
          refine hplc.mono ?_
          rintro en2 w2 ⟨rfl, hB2⟩
          clear hplc r0 r1 r2 r3 r4 r5 r6 c0 c1 c2 c3 c4 c5 c6 q0
          go_wp2_with fail
          go_roundg m
          case measure => omega
          case rel => exact ⟨1, by omega, rfl, by rw [HRR.out], rfl, hBA1.trans (hB2.mono hBA1.size)⟩
        · have h1 : (0 : Int) < (q : Int) := by omega
          have hst : str ([40] ++ joinB f q) ++ str [44, 32] ++ str (f q) = str ([40] ++ joinB f (q + 1)) := by
            rw [str_append, str_append, HJ1.out, sepB_pos h0]
            simp [List.append_assoc]
          have hz1 : ¬ 9223372036854775807 < (str ([40] ++ joinB f q)).size + 2 := by rw [str_size, List.length_append, List.length_singleton]; omega
          have hz2 : ¬ 9223372036854775807 < (str ([40] ++ joinB f q) ++ str [44, 32]).size + (str (f q)).size := by rw [str_append, str_size, str_size, List.length_append, List.length_append, List.length_singleton]; simp; omega
          change str ([40] ++ joinB f q) ++ (⟨#[44, 32]⟩ : ByteArray) ++ _ = _ at hst
          obtain ⟨L, hL⟩ : ∃ L, str ([40] ++ joinB f q) = L := ⟨_, rfl⟩
          obtain ⟨F, hF⟩ : ∃ F, str (f q) = F := ⟨_, rfl⟩
          obtain ⟨R, hR⟩ : ∃ R, str ([40] ++ joinB f (q + 1)) = R := ⟨_, rfl⟩
          obtain ⟨L2, hL2⟩ : ∃ L2, L ++ (⟨#[44, 32]⟩ : ByteArray) = L2 := ⟨_, rfl⟩
          change ¬ 9223372036854775807 < (str ([40] ++ joinB f q) ++ (⟨#[44, 32]⟩ : ByteArray)).size + _ at hz2
          rw [hL, hF, hR, hL2] at hst
          rw [hF] at hsl
          rw [hL] at hz1
          rw [hL, hF, hL2] at hz2
          rw [hL]
          have HRR := Lib.hid hR
          clear hL hF hR hl1 hl2 h0
          go_wp2_with fail
          refine hplc.mono ?_
          rintro en2 w2 ⟨rfl, hB2⟩
          clear hplc r0 r1 r2 r3 r4 r5 r6 c0 c1 c2 c3 c4 c5 c6 q0
          go_wp2_with fail
          go_roundg m
          case measure => omega
          case rel => exact ⟨q + 1, by omega, rfl, by rw [HRR.out], rfl, hBA1.trans (hB2.mono hBA1.size)⟩
end Go.Proofs.YtodihpaabkplhaaDoor

namespace Go.Proofs.YtodihpaabkplhaaDoor
open Go.RowKit

theorem runB_one (xs : Nat → Nat) (d : Int) (s : Nat) (hs : 1 ≤ s) : runB xs d s s = coordB xs d s := by
  have h := runB_places xs d s hs 1
  rw [Nat.one_mul] at h
  rw [h, joinB_succ, sepB_zero, placeB]
  simp [joinB]
theorem placesT_point (xs : Nat → Nat) (d : Int) (s m : Nat) (hs : 1 ≤ s) (hm : m % s = 0) (hm0 : m ≠ 0) (hms : m ≤ s) : placesT xs d s m = [40] ++ coordB xs d m ++ [41] := by
  have hm1 : m = s := by
    rcases Nat.lt_or_ge m s with h | h
    · rw [Nat.mod_eq_of_lt h] at hm; exact absurd hm hm0
    · omega
  subst hm1
  rw [placesT, if_neg hm0, runB_one xs d m hs]

theorem points_wkt {sr : Int} {ka sa : Option Addr} {kc sc : Nat} (cb co n k s cap ec : Nat) (ao eo : Option Addr) (l : Int) (xs e : Nat → Nat) (d : Int) (w : World) (T : Tabs cb co w) (hr : FRowO w ao n xs) (hie : IRow w eo k (fun i => (e i : Int))) (hE : EndsUp s 0 e k) (hone : ∀ i, i < k → e i - fromE 0 e i ≤ s) (hto : fromE 0 e k = n) (hn : n ≤ 2000) (hk : k ≤ 2000) (hk0 : 0 < k)
    (hl1 : 1 ≤ l) (hl4 : l ≤ 4) (hls : strideI l = (s : Int)) (hs : 1 ≤ s) (hs9 : s ≤ 9) (hcap : n ≤ cap) (hcm : cap ≤ maxLen) (p0 : -1 ≤ d) (p1 : d ≤ 20) :
    Calls Tryd.prog 16 #[geomV 4 l sr (.slice ao n cap) (.slice eo k ec) (.slice sa 0 sc) (.slice ka 0 kc), .int .i64 d] w fun e9 w' => e9 = .returned (.tuple #[.string (str (headB 4 l ++ pointsB xs d 0 e k)), .bool true]) ∧ Below w.heap.size w w' := by
  have hlen := pointsB_length xs d s 0 e k p0 p1 hE
  have hez : ∀ i, i < k → e i ≤ n := fun i hi => by
    have := hE.le (i + 1) k (by omega) (Nat.le_refl _)
    rw [fromE_succ] at this
    omega
  have hpl : ∀ i, i < k → (pointB xs d (fromE 0 e i) (e i)).length ≤ (e i - fromE 0 e i) * 20006 + 7 := fun i _ => pointB_length xs d _ _ p0 p1
  have hjl : ∀ q, q ≤ k → (joinB (fun i => pointB xs d (fromE 0 e i) (e i)) q).length ≤ 1000000000 := fun q hq => by
    have h := join_parts_length hE (fun i => pointB xs d (fromE 0 e i) (e i)) hpl q hq
    refine Nat.le_trans h ?_
    have := hE.le q k hq (Nat.le_refl _)
    omega
  refine wkt_any 4 l d _ _ _ _ _ w (by omega) hl1 hl4 (by omega) (fun w' hw' => ?_)
  rw [hls]
  refine body_parts4 l s k ao eo sa n cap k ec 0 sc true d ⟨1, fun i => e i - fromE 0 e i, fun i j => xs (fromE 0 e i + j), fun _ => 0, fun _ _ => 0⟩ (fun i => pointB xs d (fromE 0 e i) (e i)) w' hk0 (by omega) (fun w2 hw2 => ?_) (fun i w2 cs hi hm hw2 hv => ?_) (fun i w2 fo fp hi hm hw2 hf => ?_) hjl (fun i hi => ?_)
  · have hb := hw'.trans (hw2.mono hw'.size)
    refine parts_any 4 l ao eo sa ka n cap k ec 0 sc 0 kc _ k w2 (by omega) (fun w3 => numParts_ends 4 l _ _ _ eo k ec w3 (by omega)) (fun i w3 hi hw3 => ?_)
    have hb3 := hb.trans (hw3.mono hb.size)
    exact part4_any l ao eo _ _ n cap k ec i xs e w3 (hr.below hb3) (hie.below hb3) hi (hE i hi).1 (hez i hi) hcap hcm hn (by omega)
  · have hb := hw'.trans (hw2.mono hw'.size)
    obtain ⟨fo, fp, eo', ep, rfl, hf⟩ := PartOut.bodyV hv
    have hm' : e i - fromE 0 e i = 0 := hm
    have h := body_leaf 1 l cb co _ fp s 0 ep fo eo' false _ d w2 (by omega) (T.below hb) hf hs hs9 (by show e i - fromE 0 e i ≤ 2000; omega) p0 p1
    have ht : placesT (fun j => xs (fromE 0 e i + j)) d s (e i - fromE 0 e i) = pointB xs d (fromE 0 e i) (e i) := by
      rw [placesT, if_pos hm', pointB, if_pos (by omega)]
    rw [← ht]
    exact h
  · have hb := hw'.trans (hw2.mono hw'.size)
    have hm' : e i - fromE 0 e i ≠ 0 := hm
    have h := places_any cb co _ s fp fo _ d w2 (T.below hb) hf hs hs9 (by have := hez i hi; show e i - fromE 0 e i ≤ 2000; omega) p0 p1
    have ht : placesT (fun j => xs (fromE 0 e i + j)) d s (e i - fromE 0 e i) = [40] ++ pointB xs d (fromE 0 e i) (e i) ++ [41] := by
      rw [placesT_point _ d s _ hs (hE i hi).2 hm' (hone i hi), pointB, if_neg (by omega)]
    rw [← ht]
    exact h
  · refine Nat.le_trans (hpl i hi) ?_
    have h2 := hez i hi
    have h3 : e i - fromE 0 e i ≤ 2000 := by omega
    generalize e i - fromE 0 e i = y at h3 ⊢
    omega
end Go.Proofs.YtodihpaabkplhaaDoor
