/- spec.Part at kind 5. The law FnLinesText. -/
import Derived.Test.YtodihpaabkplhaaDoorPrt
import Derived.Test.YtodihpaabkplhaaDoorDfm
import Derived.Test.YtodihpaabkplhaaDoorBdy
import Derived.Test.YtodihpaabkplhaaDoorWkt

namespace Go.Proofs.YtodihpaabkplhaaDoor
open Go.RowKit

set_option maxRecDepth 100000 in
set_option maxHeartbeats 3200000 in
theorem part5_any (l : Int) (fa ea : Option Addr) (sv kv : Value) (fn fc en ec i : Nat) (xs e : Nat → Nat) (w : World) (hr : FRowO w fa fn xs) (hie : IRow w ea en (fun j => (e j : Int))) (hi : i < en) (ha : fromE 0 e i ≤ e i) (hz : e i ≤ fn) (hfc : fn ≤ fc) (hfm : fc ≤ maxLen) (hn : fn ≤ 2000) (hen : en ≤ 100000) :
    Calls Tryd.prog 43 #[geomV 5 l 0 (.slice fa fn fc) (.slice ea en ec) sv kv, .int .i64 i] w (PartOut 2 l (fun j => xs (fromE 0 e i + j)) (e i - fromE 0 e i) 0 (fun _ => 0) w) := by
  obtain ⟨W2, hW2, hg, hz0, hB2, hs2⟩ := two_boxes w (geomC 5 l 0 (.slice fa fn fc) (.slice ea en ec) sv kv) zeroC
  unfold zeroC geomC at hW2
  have HW2 := Lib.hid hW2
  obtain ⟨ib, io, rfl, hcel⟩ := hie (by omega)
  have ce : W2.cell? ⟨ib, io + i, none⟩ = some (.int .i64 ((e i : Nat) : Int)) := cell_kept hB2 (hcel i hi).1
  have hko := fun w' => kidOf_any 5 w' (by decide) (by decide)
  obtain ⟨c0, c1, c2, c3, c4, c5, c6⟩ := hg.cells7
  have hin : (i : Int) < (en : Int) := by omega
  have hiI : (i : Int) ≤ 100000 := by omega
  have n1 : w.heap.size ≠ w.heap.size + 1 := by omega
  have n2 : ib ≠ w.heap.size + 1 := by have := World.block_lt_of_cell? w _ (hcel i hi).1; simp at this; omega
  obtain ⟨z, hze⟩ : ∃ z, e i = z := ⟨_, rfl⟩
  obtain ⟨a, hae⟩ : ∃ a, fromE 0 e i = a := ⟨_, rfl⟩
  rw [hze] at ce ha hz ⊢
  rw [hae] at ha ⊢
  have HAE := Lib.hid hae
  have HCEL := Lib.hid hcel
  have N1 := Lib.hid n1
  have N2 := Lib.hid n2
  clear hW2 hie hze hae hcel n1 n2
  unfold geomV
  go_enter Tryd.func43, Tryd.ntmps43
  go_upto_region 1 with fail
  rw [HW2.out]
  clear HW2
  go_upto_if 78 with fail
  go_cut [12] (fun v wx => v = .int .i64 (a : Int) ∧ wx = W2)
  case first =>
    by_cases h0 : i = 0
    · subst h0
      have ha0 : a = 0 := HAE.out.symm
      subst ha0
      have z0 : ((0 : Nat) : Int) = 0 := rfl
      rw [z0]
      clear z0 ce
      go_wp2_with fail
      go_meet
      exact ⟨rfl, rfl⟩
    · have h0' : (0 : Int) < (i : Int) := by omega
      obtain ⟨p, hp⟩ : ∃ p, i = p + 1 := ⟨i - 1, by omega⟩
      have cp : W2.cell? ⟨ib, io + p, none⟩ = some (.int .i64 ((e p : Nat) : Int)) := cell_kept hB2 (HCEL.out p (by omega)).1
      have hfe : e p = a := by rw [← HAE.out, hp, fromE_succ]
      rw [hfe] at cp
      have hp1 : (i : Int) - 1 = (p : Int) := by omega
      have hpn : (p : Int) < (en : Int) := by omega
      have hpI : (p : Int) ≤ 100000 := by omega
      clear h0 hfe hp
      go_wp2_with fail
      go_meet
      exact ⟨rfl, rfl⟩
  case rest =>
    obtain ⟨rfl, rfl⟩ := hcut
    rename_i K hK
    refine hK _ _ ?_
    clear hK
    have hi0 : (0 : Int) ≤ (i : Int) := by omega
    have hcmI : (fc : Int) ≤ 9223372036854775807 := by unfold maxLen at hfm; omega
    have HFM := Lib.hid hfm
    clear hfm
    have haz : a < z ∨ a = z := by omega
    rcases haz with haz | haz
    · obtain ⟨fb, fo, rfl, hx⟩ := hr (by omega)
      have h1 : (a : Int) ≤ (z : Int) := by omega
      have h2 : (z : Int) ≤ (fc : Int) := by omega
      have hne : ¬ fc = a := by omega
      have hsb : ((z : Int) - (a : Int)).toNat = z - a := by omega
      obtain ⟨i0, hi0', hz0', hz1, hz2⟩ := info_parts info_f64
      have hsrc := src_cells (o := .cells #[] 24) (a := a) (m := z - a) hx hB2 (by omega)
      have hlit := World.ownsRow_lit (e := 24) (size := 1) (base := w.heap.size) wc #[] 0 (by omega) (by decide) (by rfl)
      have hy : ∀ j, j < z - a → xs (a + j) < 18446744073709551616 := fun j hj => (hx (a + j) (by omega)).2
      have HY := Lib.hid hy
      have hq1 : 0 < z - a := by omega
      have hq2 : 0 + (z - a) ≤ maxLen := by unfold maxLen; omega
      have hq3 : (0 + (z - a)) * 8 ≤ 140737488355328 := by omega
      have hq4 : w.heap.size ≤ (wc.alloc (.cells #[] 24)).drew.heap.size := by show w.heap.size ≤ (wc.heap.push _).size; simp; omega
      have hq5 : (fltL (fun j => xs (a + j)) (z - a)).length = (z - a) * 1 := by rw [fltL_length, Nat.mul_one]
      have hq6 := fltL_one (fun j => xs (a + j)) (z - a)
      have hzc := fun (w1 : World) (hg : (wc.alloc (.cells #[] 24)).drew.grownBy w1 (some wc.heap.size)) => (Box.grownD hz0 hg).cells7
      have hzf := fun (w1 : World) (hg : (wc.alloc (.cells #[] 24)).drew.grownBy w1 (some wc.heap.size)) => (Box.grownD hz0 hg).frozen7
      have n1 := N1.out
      have n2 := N2.out
      have HQ2 := Lib.hid hq2
      have HQ3 := Lib.hid hq3
      have HQ5 := Lib.hid hq5
      have HQ6 := Lib.hid hq6
      have HZC := Lib.hid hzc
      have HZF := Lib.hid hzf
      have HSRC := Lib.hid hsrc
      have HLIT := Lib.hid hlit
      clear hq2 hq3 hq5 hq6 hzc hzf hsrc hlit hr hx hy
      go_wp2_with fail
      refine (hko _).mono ?_
      rintro en1 w1 ⟨rfl, rfl⟩
      clear hko
      go_wp2_with fail
      go_region_held3 (fun x => x.cell? ⟨w.heap.size, 1, none⟩ = some (.int .i64 l) ∧ x.cell? ⟨w.heap.size, 3, none⟩ = some (.slice (some ⟨fb, fo, none⟩) fn fc) ∧ x.cell? ⟨w.heap.size, 4, none⟩ = some (.slice (some ⟨ib, io, none⟩) en ec) ∧ x.cell? ⟨ib, io + i, none⟩ = some (.int .i64 (z : Int)))
        (first | (with_reducible exact ⟨e1, e3, e4, e5⟩) | (with_reducible exact ⟨(far7 n1 e1 _ _ _ _ _ _ _), (far7 n1 e3 _ _ _ _ _ _ _), (far7 n1 e4 _ _ _ _ _ _ _), (far7 n2 e5 _ _ _ _ _ _ _)⟩) | go_keep)
        ((refine step_append_lies _ (by rfl) _ _ _ (by rfl) w.heap.size 24 i0 _ 1 8 Tryd.underlying22 hi0' hz0' hz1 hz2 rfl (by decide) (.slice (some ⟨wc.heap.size, 0, none⟩) 0 0) 0 [] (by rfl) HLIT.out ⟨fb, fo + a, none⟩ (z - a) (fc - a) (fltL (fun j => xs (a + j)) (z - a)) (by rfl) HQ5.out HSRC.out HQ6.out hq1 HQ2.out HQ3.out hq4 _ rfl ?_; intro g cap w1 hown1 hgrow hat hlt; have e1 := grown_cell c1 hgrow; have e3 := grown_cell c3 hgrow; have e4 := grown_cell c4 hgrow; have e5 := grown_cell ce hgrow; obtain ⟨z0, z1, z2, z3, z4, z5, z6⟩ := HZC.out w1 hgrow; obtain ⟨y0, y1, y2, y3, y4, y5, y6⟩ := HZF.out w1 hgrow))
      go_wp2_with fail
      have hb3 := grown_below hB2 hgrow
      exact bodyPost_ret (v := .agg #[.int .i64 2, .int .i64 l, .int .i64 0, .slice (some ⟨g, 0, none⟩) (z - a) cap, .slice none 0 0, .slice none 0 0, .slice none 0 0]) (by simp [results, Tryd.results43, go_sem, z0, z1, z2, z3, z4, z5, z6]) rfl (part_out hown1 HY.out hb3 (by
        rcases hat with h | h
        · have : wc.heap.size = g := by simpa [Value.ownBlock] using h
          omega
        · rw [h]
          show w.heap.size + 1 < (wc.heap.push _).size
          simp
          omega))
    · subst haz
      have hsb : ((a : Int) - (a : Int)).toNat = 0 := by omega
      have h1 : (a : Int) ≤ (a : Int) := Int.le_refl _
      have h2 : (a : Int) ≤ (fc : Int) := by omega
      have n1 := N1.out
      have n2 := N2.out
      have hb3 : Below w.heap.size w (wc.alloc (.cells #[] 24)).drew := (hB2.alloc hB2.size _).drew
      obtain ⟨z0, z1, z2, z3, z4, z5, z6⟩ := (Box.below hz0 ((Below.refl _ _).alloc (Nat.le_refl _) (.cells #[] 24))).cells7
      obtain ⟨y0, y1, y2, y3, y4, y5, y6⟩ := (Box.below hz0 ((Below.refl _ _).alloc (Nat.le_refl _) (.cells #[] 24))).frozen7
      have e1 := cell_kept ((Below.refl _ _).alloc (Nat.le_refl _) (.cells #[] 24)) c1
      have e3 := cell_kept ((Below.refl _ _).alloc (Nat.le_refl _) (.cells #[] 24)) c3
      have e4 := cell_kept ((Below.refl _ _).alloc (Nat.le_refl _) (.cells #[] 24)) c4
      have e5 := cell_kept ((Below.refl _ _).alloc (Nat.le_refl _) (.cells #[] 24)) ce
      have hfa : fa = none ∨ ∃ ad, fa = some ad := by cases fa with | none => exact Or.inl rfl | some ad => exact Or.inr ⟨ad, rfl⟩
      clear hr
      go_wp2_with fail
      refine (hko _).mono ?_
      rintro en1 w1 ⟨rfl, rfl⟩
      clear hko
      go_wp2_with fail
      rcases hfa with rfl | ⟨ad, rfl⟩
      · go_region_held3 (fun x => x.cell? ⟨w.heap.size, 1, none⟩ = some (.int .i64 l) ∧ x.cell? ⟨w.heap.size, 3, none⟩ = some (.slice none fn fc) ∧ x.cell? ⟨w.heap.size, 4, none⟩ = some (.slice (some ⟨ib, io, none⟩) en ec) ∧ x.cell? ⟨ib, io + i, none⟩ = some (.int .i64 (a : Int)))
          (first | (with_reducible exact ⟨(far7d n1 e1 _ _ _ _ _ _ _), (far7d n1 e3 _ _ _ _ _ _ _), (far7d n1 e4 _ _ _ _ _ _ _), (far7d n2 e5 _ _ _ _ _ _ _)⟩) | go_keep)
          (fail)
        go_wp2_with fail
        exact bodyPost_ret (v := .agg #[.int .i64 2, .int .i64 l, .int .i64 0, .slice (some ⟨wc.heap.size, 0, none⟩) 0 0, .slice none 0 0, .slice none 0 0, .slice none 0 0]) (by simp [results, Tryd.results43, go_sem, z0, z1, z2, z3, z4, z5, z6]) rfl (part_nil (hB2.alloc hB2.size _) _ _ _ _ _ _ _)
      · by_cases hne : fc = a
        all_goals
          go_region_held3 (fun x => x.cell? ⟨w.heap.size, 1, none⟩ = some (.int .i64 l) ∧ x.cell? ⟨w.heap.size, 3, none⟩ = some (.slice (some ad) fn fc) ∧ x.cell? ⟨w.heap.size, 4, none⟩ = some (.slice (some ⟨ib, io, none⟩) en ec) ∧ x.cell? ⟨ib, io + i, none⟩ = some (.int .i64 (a : Int)))
            (first | (with_reducible exact ⟨(far7d n1 e1 _ _ _ _ _ _ _), (far7d n1 e3 _ _ _ _ _ _ _), (far7d n1 e4 _ _ _ _ _ _ _), (far7d n2 e5 _ _ _ _ _ _ _)⟩) | go_keep)
            (fail)
          go_wp2_with fail
          exact bodyPost_ret (v := .agg #[.int .i64 2, .int .i64 l, .int .i64 0, .slice (some ⟨wc.heap.size, 0, none⟩) 0 0, .slice none 0 0, .slice none 0 0, .slice none 0 0]) (by simp [results, Tryd.results43, go_sem, z0, z1, z2, z3, z4, z5, z6]) rfl (part_nil (hB2.alloc hB2.size _) _ _ _ _ _ _ _)

end Go.Proofs.YtodihpaabkplhaaDoor

namespace Go.Proofs.YtodihpaabkplhaaDoor
open Go.RowKit

/-- What stands from the first bracket on. -/
theorem dropB_get (l r : List UInt8) (i : Nat) (hi : i < l.length) (S : ByteArray) (hS : S = str (l ++ r)) (h : i < S.size) : S[i]'h = l[i] := by
  have h1 := get_data S i h
  have h2 : S.data[i]? = some l[i] := by
    rw [hS]
    show (l ++ r).toArray[i]? = some l[i]
    rw [List.getElem?_toArray, List.getElem?_append_left hi, List.getElem?_eq_getElem hi]
  exact Option.some.inj (h1.symm.trans h2)

set_option maxRecDepth 100000 in
set_option maxHeartbeats 1600000 in
theorem xFrom_any (l r : List UInt8) (w : World) (hl : ∀ x ∈ l, x ≠ 40) (hlen : (l ++ [40] ++ r).length ≤ 2000000000) :
    Calls Tryd.prog 18 #[.string (str (l ++ [40] ++ r))] w fun e w' => e = .returned (.string (str ([40] ++ r))) ∧ w = w' := by
  obtain ⟨S, hS⟩ : ∃ S, str (l ++ [40] ++ r) = S := ⟨_, rfl⟩
  have hsz : S.size = (l ++ [40] ++ r).length := by rw [← hS, str_size]
  have hlt : l.length < S.size := by rw [hsz, List.length_append, List.length_append, List.length_singleton]; omega
  have hsI : (S.size : Int) ≤ 2000000000 := by omega
  obtain ⟨R, hR⟩ : ∃ R, str ([40] ++ r) = R := ⟨_, rfl⟩
  have hext : S.extract l.length S.size = R := by
    rw [← hS, ← hR]
    apply ByteArray.ext
    rw [ByteArray.data_extract, str_size]
    show ((l ++ [40] ++ r).toArray).extract l.length _ = ([40] ++ r).toArray
    rw [List.extract_toArray, List.extract_eq_take_drop, List.append_assoc, List.drop_left, List.take_of_length_le (by simp)]
  have h40 : S[l.length]'hlt = 40 := by
    subst hS
    show (l ++ [40] ++ r).toArray[l.length] = 40
    simp
  have hno : ∀ i (h : i < l.length), ((S[i]'(by omega)).toNat : Int) ≠ 40 := by
    intro i h
    rw [dropB_get l ([40] ++ r) i h S (by rw [← List.append_assoc]; exact hS.symm) (by omega)]
    intro h'
    exact hl l[i] (List.getElem_mem h) ((u8_eq_toNat l[i] 40 (by decide)).2 h')
  rw [hS, hR]
  have HS := Lib.hid hS
  have HX := Lib.hid hext
  have HN := Lib.hid hno
  have H4 := Lib.hid h40
  have HSZ := Lib.hid hsz
  clear hS hsz hext hno h40 hR hl
  go_enter Tryd.func18, Tryd.ntmps18
  go_wp2_with fail
  go_loopg [3] l.length (fun m v wr => ∃ i : Nat, i + m = l.length ∧ v = .int .i64 (i : Int) ∧ wr = w)
  case atStart => exact ⟨0, by omega, rfl, rfl⟩
  case round =>
    obtain ⟨i, hi, rfl, rfl⟩ := hrel
    have hiS : i < S.size := by omega
    cases gk with
    | zero =>
      have hil : i = l.length := by omega
      subst hil
      have hb : (((S[l.length]'hlt).toNat : Int) == 40) = true := by rw [H4.out]; rfl
      go_wp2_with fail
      go_ret
      exact ⟨by rw [← HX.out]; rfl, rfl⟩
    | succ m =>
      have hb : (((S[i]'hiS).toNat : Int) == 40) = false := by rw [beq_eq_false_iff_ne]; exact HN.out i (by omega)
      have hiI : (i : Int) ≤ 2000000000 := by omega
      go_wp2_with fail
      go_roundg m
      case measure => omega
      case rel => exact ⟨i + 1, by omega, rfl, rfl⟩

theorem head_no40 (k l : Int) : ∀ x ∈ headB k l, x ≠ 40 := by
  have h1 : ∀ x ∈ kindB k, x ≠ 40 := by
    unfold kindB
    split
    · decide
    · split <;> decide
  have h2 : ∀ x ∈ tagB l, x ≠ 40 := by
    unfold tagB
    split
    · decide
    · split
      · decide
      · split <;> decide
  intro x hx
  rcases List.mem_append.1 hx with hx | hx
  · rcases List.mem_append.1 hx with hx | hx
    · exact h1 x hx
    · have : x = 32 := by simpa using hx
      subst this
      decide
  · exact h2 x hx
theorem head_length (k l : Int) : (headB k l).length ≤ 40 := by
  have h1 : (kindB k).length ≤ 15 := by
    unfold kindB
    split
    · decide
    · split <;> decide
  have h2 : (tagB l).length ≤ 3 := by
    unfold tagB
    split
    · decide
    · split
      · decide
      · split <;> decide
  rw [headB, List.length_append, List.length_append, List.length_singleton]
  omega

theorem PartOut.bodyV {w : World} {k l : Int} {m : Nat} {ys : Nat → Nat} {en : Nat} {es : Nat → Nat} {cs : Array Value} (h : PartV w k l m ys en es cs) : ∃ fo fp eo ep, cs = #[.int .i64 k, .int .i64 l, .int .i64 0, .slice fo m fp, .slice eo en ep, .slice none 0 0, .slice none 0 0] ∧ FRowO w fo m ys := by
  obtain ⟨fo, fp, eo, ep, h1, _, h3, _⟩ := h
  exact ⟨fo, fp, eo, ep, h1, h3.toO⟩

/-- spec.WriteWKT of good lines. -/
theorem lines_wkt (cb co n k s cap ec : Nat) (ao eo : Option Addr) (l : Int) (xs e : Nat → Nat) (d : Int) (w : World) (T : Tabs cb co w) (hr : FRowO w ao n xs) (hie : IRow w eo k (fun i => (e i : Int))) (hE : EndsUp s 0 e k) (hto : fromE 0 e k = n) (hn : n ≤ 2000) (hk : k ≤ 2000) (hk0 : 0 < k)
    (hl1 : 1 ≤ l) (hl4 : l ≤ 4) (hls : strideI l = (s : Int)) (hs : 1 ≤ s) (hs9 : s ≤ 9) (hcap : n ≤ cap) (hcm : cap ≤ maxLen) (p0 : -1 ≤ d) (p1 : d ≤ 20) :
    Calls Tryd.prog 16 #[geomV 5 l 0 (.slice ao n cap) (.slice eo k ec) (.slice none 0 0) (.slice none 0 0), .int .i64 d] w fun e9 w' => e9 = .returned (.tuple #[.string (str (headB 5 l ++ linesB xs d s 0 e k)), .bool true]) ∧ Below w.heap.size w w' := by
  have hlen := linesB_length xs d s 0 e k p0 p1 hs hE
  have hez : ∀ i, i < k → e i ≤ n := fun i hi => by
    have := hE.le (i + 1) k (by omega) (Nat.le_refl _)
    rw [fromE_succ] at this
    omega
  have htxt : linesB xs d s 0 e k = brackB (fun i => placesT (fun j => xs (fromE 0 e i + j)) d s (e i - fromE 0 e i)) k := by
    rw [linesB, brackB, brackB]
    rw [joinB_congr k (fun i hi => (placesT_line xs d s (fromE 0 e i) (e i) hs (hE i hi).2).symm)]
  have hjl : ∀ q, q ≤ k → (joinB (fun i => placesT (fun j => xs (fromE 0 e i + j)) d s (e i - fromE 0 e i)) q).length ≤ 1000000000 := fun q hq => by
    have h := join_parts_length hE (fun i => placesT (fun j => xs (fromE 0 e i + j)) d s (e i - fromE 0 e i)) (fun i hi => by
      have h1 : (placesT (fun j => xs (fromE 0 e i + j)) d s (e i - fromE 0 e i)).length ≤ (e i - fromE 0 e i) * 20005 + 5 := placesT_length _ d s _ p0 p1
      refine Nat.le_trans h1 ?_
      generalize e i - fromE 0 e i = y
      omega) q hq
    refine Nat.le_trans h ?_
    have := hE.le q k hq (Nat.le_refl _)
    omega
  refine wkt_any 5 l d _ _ _ _ _ w (by omega) hl1 hl4 (by omega) (fun w' hw' => ?_)
  rw [hls, htxt]
  refine body_parts5 l s k ao eo none n cap k ec 0 0 true d ⟨2, fun i => e i - fromE 0 e i, fun i j => xs (fromE 0 e i + j), fun _ => 0, fun _ _ => 0⟩ _ w' hk0 (by omega) (fun w2 hw2 => ?_) (fun i w2 cs hi hw2 hv => ?_) hjl (fun i hi => ?_)
  · have hb := hw'.trans (hw2.mono hw'.size)
    refine parts_any 5 l ao eo none none n cap k ec 0 0 0 0 _ k w2 (by omega) (fun w3 => numParts_ends 5 l _ _ _ eo k ec w3 (by omega)) (fun i w3 hi hw3 => ?_)
    have hb3 := hb.trans (hw3.mono hb.size)
    exact part5_any l ao eo _ _ n cap k ec i xs e w3 (hr.below hb3) (hie.below hb3) hi (hE i hi).1 (hez i hi) hcap hcm hn (by omega)
  · have hb := hw'.trans (hw2.mono hw'.size)
    obtain ⟨fo, fp, eo', ep, rfl, hf⟩ := PartOut.bodyV hv
    exact body_leaf 2 l cb co _ fp s 0 ep fo eo' false _ d w2 (by omega) (T.below hb) hf hs hs9 (by have := hez i hi; show e i - fromE 0 e i ≤ 2000; omega) p0 p1
  · have h1 : (placesT (fun j => xs (fromE 0 e i + j)) d s (e i - fromE 0 e i)).length ≤ (e i - fromE 0 e i) * 20005 + 5 := placesT_length _ d s _ p0 p1
    have h2 := hez i hi
    refine Nat.le_trans h1 ?_
    have h3 : e i - fromE 0 e i ≤ 2000 := by omega
    generalize e i - fromE 0 e i = y at h3 ⊢
    omega

theorem IRow.congr {w : World} {ao : Option Addr} {n : Nat} {e f : Nat → Int} (h : IRow w ao n e) (he : ∀ i, i < n → e i = f i) : IRow w ao n f := fun hn => by
  obtain ⟨b, o, h1, h2⟩ := h hn
  exact ⟨b, o, h1, fun i hi => by rw [← he i hi]; exact h2 i hi⟩

set_option maxRecDepth 100000 in
set_option maxHeartbeats 3200000 in
theorem fnLinesText_any (cb co n cap en ec : Nat) (ao eo : Option Addr) (xs : Nat → Nat) (ee : Nat → Int) (s d : Int) (w : World) (T : Tabs cb co w) (hr : FRowO w ao n xs) (hie : IRow w eo en ee) (hcap : n ≤ cap) (hcm : cap ≤ maxLen)
    (s0 : -9223372036854775808 ≤ s) (s1 : s ≤ 9223372036854775807) (d0 : -9223372036854775808 ≤ d) (d1 : d ≤ 9223372036854775807) :
    Calls Tryd.prog 6 #[.slice ao n cap, .slice eo en ec, .int .i64 s, .int .i64 d] w fun e w' => e = .returned (.bool true) ∧ Below w.heap.size w w' := by
  have HT := Lib.hid T
  have HR := Lib.hid hr
  have HM := Lib.hid hcm
  have HC := Lib.hid hcap
  have HIE := Lib.hid hie
  clear T hr hcm hcap hie
  by_cases hb : 2147483647 < n
  · have hb' : (2147483647 : Int) < (n : Int) := by omega
    clear hb
    go_enter Tryd.func6, Tryd.ntmps6
    go_wp2_with fail
    go_ret
    exact ⟨rfl, Below.refl _ _⟩
  by_cases hbe : 2147483647 < en
  · have hb' : ¬ (2147483647 : Int) < (n : Int) := by omega
    have hbe' : (2147483647 : Int) < (en : Int) := by omega
    clear hb hbe
    go_enter Tryd.func6, Tryd.ntmps6
    go_wp2_with fail
    go_ret
    exact ⟨rfl, Below.refl _ _⟩
  have hb' : ¬ (2147483647 : Int) < (n : Int) := by omega
  have hbe' : ¬ (2147483647 : Int) < (en : Int) := by omega
  have hfr := fRows_any ao eo n cap en ec ee s w (by omega) (by omega) HIE.out
  have hxd := fun w' => xDigits_any d w' d0 d1
  have hfl := fun w' => fLayout_any s w'
  obtain ⟨db, hdb⟩ : ∃ db, (decide (-1 ≤ d) && decide (d ≤ 20)) = db := ⟨_, rfl⟩
  rw [hdb] at hxd
  have HDB := Lib.hid hdb
  clear hb hbe hdb
  go_enter Tryd.func6, Tryd.ntmps6
  go_wp2_with fail
  refine hfr.mono ?_
  rintro en1 w1 ⟨k', l', a1, n1, e1, a2, n2, e2, a3, n3, e3, b, rfl, hok, hB1⟩
  clear hfr
  have hB2 : Below w.heap.size w (w1.alloc (.cells #[.int .i64 k', .int .i64 l', .int .i64 0, .slice a1 n1 e1, .slice a2 n2 e2, .slice a3 n3 e3, .slice none 0 0] 33)) := hB1.alloc hB1.size _
  cases b with
  | false =>
    clear hok hxd hfl
    go_wp2_with fail
    go_ret
    exact ⟨rfl, hB2⟩
  | true =>
    obtain ⟨h2, h9, _, hsz, hg⟩ := hok rfl
    clear hok
    by_cases hs4 : 4 < s
    · clear hg hxd hfl hsz
      go_wp2_with fail
      go_ret
      exact ⟨rfl, hB2⟩
    have hs4' : ¬ (4 : Int) < s := hs4
    by_cases hn0 : en = 0
    · have hn0' : ((en : Int) == 0) = true := by rw [hn0]; rfl
      clear hg hsz hxd hfl
      go_wp2_with fail
      go_ret
      exact ⟨rfl, hB2⟩
    have hn0' : ((en : Int) == 0) = false := by rw [beq_eq_false_iff_ne]; omega
    cases db with
    | false =>
      clear hg hfl hsz
      go_wp2_with fail
      refine (hxd _).mono ?_
      rintro en2 w2 ⟨rfl, rfl⟩
      clear hxd
      go_wp2_with fail
      go_ret
      exact ⟨rfl, hB2⟩
    | true =>
      obtain ⟨tt, hge, htt⟩ := hg.ends (by omega)
      obtain ⟨g1, g2, g3, _⟩ := hge rfl
      obtain ⟨S, rfl⟩ : ∃ S : Nat, s = S := ⟨s.toNat, by omega⟩
      rw [Int.toNat_natCast] at g2
      obtain ⟨e, he⟩ : ∃ e : Nat → Nat, (fun i => (ee i).toNat) = e := ⟨_, rfl⟩
      have hie2 : IRow w eo en (fun i => (e i : Int)) := HIE.out.congr (fun i hi => by rw [g1 i hi, ← he])
      rw [he] at g2 g3
      have hto : fromE 0 e en = n := by rw [← g3, htt]
      have hn2 : n ≤ 2000 := by omega
      have hen2 : en ≤ 2000 := by omega
      have p0 : -1 ≤ d := by have h := HDB.out; rw [Bool.and_eq_true, decide_eq_true_eq] at h; exact h.1
      have p1 : d ≤ 20 := by have h := HDB.out; rw [Bool.and_eq_true, decide_eq_true_eq, decide_eq_true_eq] at h; exact h.2
      have hl14 : 1 ≤ layI S ∧ layI S ≤ 4 := by unfold layI; split; omega; split <;> omega
      have hls := strideI_lay (S : Int) (by omega)
      obtain ⟨W2, hW2⟩ : ∃ W2, (w1.alloc (.cells #[.int .i64 k', .int .i64 l', .int .i64 0, .slice a1 n1 e1, .slice a2 n2 e2, .slice a3 n3 e3, .slice none 0 0] 33)) = W2 := ⟨_, rfl⟩
      rw [hW2] at hB2
      have HW2 := Lib.hid hW2
      have hwk := lines_wkt cb co n en S cap ec ao eo (layI S) xs e d W2 (HT.out.below hB2) (HR.out.below hB2) (hie2.below hB2) g2 hto hn2 hen2 (by omega) hl14.1 hl14.2 hls (by omega) (by omega) HC.out HM.out p0 p1
      have hlt := fun w' (hw' : Below w.heap.size w w') => LinesText_any cb co n en S cap ec ao eo xs e d w' (HT.out.below hw') (HR.out.below hw') (hie2.below hw') g2 (by omega) (by omega) HC.out HM.out p0 p1 (by omega)
      have hxf := fun w' => xFrom_any (headB 5 (layI S)) (joinB (fun i => lineB xs d S (fromE 0 e i) (e i)) en ++ [41]) w' (head_no40 _ _) (by
        have h1 := head_length 5 (layI S)
        have h2 := linesB_length xs d S 0 e en p0 p1 (by omega) g2
        rw [linesB, brackB_length] at h2
        rw [List.length_append, List.length_append, List.length_append, List.length_singleton, List.length_singleton]
        omega)
      have e1 : headB 5 (layI S) ++ linesB xs d S 0 e en = headB 5 (layI S) ++ [40] ++ (joinB (fun i => lineB xs d S (fromE 0 e i) (e i)) en ++ [41]) := by
        rw [linesB, brackB]; simp [List.append_assoc]
      have e2 : [40] ++ (joinB (fun i => lineB xs d S (fromE 0 e i) (e i)) en ++ [41]) = linesB xs d S 0 e en := by
        rw [linesB, brackB]; simp
      rw [← e1, e2] at hxf
      obtain ⟨WT, hWT⟩ : ∃ WT, str (headB 5 (layI S) ++ linesB xs d S 0 e en) = WT := ⟨_, rfl⟩
      obtain ⟨LT, hLT⟩ : ∃ LT, str (linesB xs d S 0 e en) = LT := ⟨_, rfl⟩
      rw [hWT] at hwk hxf
      rw [hLT] at hlt hxf
      obtain ⟨L, hL⟩ : ∃ L, layI S = L := ⟨_, rfl⟩
      rw [hL] at hwk hfl
      have HLT := Lib.hid hlt
      unfold geomV at hwk
      clear e1 e2 hWT hLT hL hlt hg hge g1 g2 g3 htt hto he hls hl14 hW2 hB1 hsz hie2
      go_wp2_with fail
      refine (hxd _).mono ?_
      rintro en2 w2 ⟨rfl, rfl⟩
      clear hxd
      rw [HW2.out]
      clear HW2
      go_wp2_with fail
      refine (hfl _).mono ?_
      rintro en3 w3 ⟨rfl, rfl⟩
      clear hfl
      go_wp2_with fail
      refine hwk.mono ?_
      rintro en4 w4 ⟨rfl, hB4⟩
      clear hwk
      have hB5 := hB2.trans (hB4.mono hB2.size)
      have hlt2 := HLT.out w4 hB5
      go_wp2_with fail
      refine hlt2.mono ?_
      rintro en5 w5 ⟨rfl, hB6⟩
      clear hlt2
      go_wp2_with fail
      refine (hxf _).mono ?_
      rintro en6 w6 ⟨rfl, rfl⟩
      clear hxf
      go_wp2_with fail
      go_ret
      exact ⟨retb (by simp), hB5.trans (hB6.mono hB5.size)⟩
end Go.Proofs.YtodihpaabkplhaaDoor
