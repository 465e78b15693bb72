/- A geometry as an argument, opened: GTree. FnPointsText: the row and the card. -/
import Derived.Test.YtodihpaabkplhaaDoorTre
import Derived.Test.YtodihpaabkplhaaDoorOpn
import Derived.Deep.Fields
import Derived.Test.YtodihpaabkplhaaDoorCards
import Derived.Test.YtodihpaabkplhaaDoorTie
import Derived.Test.YtodihpaabkplhaaDoorLpo
import Derived.Carry

namespace Go.Proofs.YtodihpaabkplhaaDoor
open Go.ChangeShapes Go.WideShapes Go.ChangeAt Go.RowKit Go.Deep

section
variable {H : Type} {enc : TypeId × Value → H} {W : World} {base : Nat} {sp : Nat → Bool} {held : Bool}

set_option maxRecDepth 100000 in
theorem geom_fields {fuel : Nat} {cs : List Value} {x : DataW H × List MemPlace} (h : DataW.trod enc Tryd.prog W base sp held fuel 33 cs = some x) :
    ∃ (v0 v1 v2 v3 v4 v5 v6 : Value) (y0 y1 y2 y3 y4 y5 y6 : DataW H × List MemPlace) (n : Nat), cs = [v0, v1, v2, v3, v4, v5, v6] ∧ x.1 = .agg [y0.1, y1.1, y2.1, y3.1, y4.1, y5.1, y6.1] ∧
      DataW.trod enc Tryd.prog W base sp held n 3 [v0] = some y0 ∧ DataW.trod enc Tryd.prog W base sp held n 3 [v1] = some y1 ∧ DataW.trod enc Tryd.prog W base sp held n 3 [v2] = some y2 ∧ DataW.trod enc Tryd.prog W base sp held n 22 [v3] = some y3 ∧ DataW.trod enc Tryd.prog W base sp held n 29 [v4] = some y4 ∧ DataW.trod enc Tryd.prog W base sp held n 30 [v5] = some y5 ∧ DataW.trod enc Tryd.prog W base sp held n 31 [v6] = some y6 := by
  obtain ⟨xs, n, _, hx, hlen, hxl, hf⟩ := DataW.trod_struct Tryd.underlying33 h
  have c7 : Tryd.prog.cellsOf 33 = 7 := by kernel_rfl
  have ci : Tryd.prog.cellsOf 3 = 1 := by kernel_rfl
  have cf : Tryd.prog.cellsOf 22 = 1 := by kernel_rfl
  have ce : Tryd.prog.cellsOf 29 = 1 := by kernel_rfl
  have cl : Tryd.prog.cellsOf 30 = 1 := by kernel_rfl
  have ck : Tryd.prog.cellsOf 31 = 1 := by kernel_rfl
  rw [c7] at hlen
  have hxl7 : xs.length = 7 := hxl
  match cs, hlen, xs, hxl7, hx, hf with
  | [v0, v1, v2, v3, v4, v5, v6], _, [y0, y1, y2, y3, y4, y5, y6], _, hx, hf =>
    exact ⟨v0, v1, v2, v3, v4, v5, v6, y0, y1, y2, y3, y4, y5, y6, n, rfl, by rw [hx]; rfl, by simpa [ci] using hf 0 _ rfl, by simpa [ci] using hf 1 _ rfl, by simpa [ci] using hf 2 _ rfl, by simpa [cf] using hf 3 _ rfl, by simpa [ce] using hf 4 _ rfl, by simpa [cl] using hf 5 _ rfl, by simpa [ck] using hf 6 _ rfl⟩

theorem tree_of : ∀ (N : Nat) (fuel : Nat) (cs : List Value) (x : DataW H × List MemPlace), SizeOf.sizeOf x.1 ≤ N → DataW.trod enc Tryd.prog W base sp held fuel 33 cs = some x → GTree W N cs.toArray
  | 0, fuel, cs, x, hN, h => by
    obtain ⟨v0, v1, v2, v3, v4, v5, v6, y0, y1, y2, y3, y4, y5, y6, n, rfl, hx, _⟩ := geom_fields h
    rw [hx] at hN
    simp at hN
  | N + 1, fuel, cs, x, hN, h => by
    obtain ⟨v0, v1, v2, v3, v4, v5, v6, y0, y1, y2, y3, y4, y5, y6, n, rfl, hx, t0, t1, t2, t3, t4, t5, t6⟩ := geom_fields h
    obtain ⟨k, e0, _, _⟩ := DataW.trod_int Tryd.underlying3 t0
    obtain ⟨l, e1, _, wl⟩ := DataW.trod_int Tryd.underlying3 t1
    obtain ⟨q, e2, _, _⟩ := DataW.trod_int Tryd.underlying3 t2
    obtain ⟨fa, fn, fc, xs, rfl, f1, f2, _⟩ := trod_floats t3
    obtain ⟨ea, en, ec, e, rfl, g1, g2, hie⟩ := trod_ints t4
    obtain ⟨sa, sn, sc, m, ee, rfl, l1, l2, hls⟩ := trod_introws t5
    have hk0 : v0 = .int .i64 k := by simpa using e0
    have hk1 : v1 = .int .i64 l := by simpa using e1
    have hk2 : v2 = .int .i64 q := by simpa using e2
    subst hk0 hk1 hk2
    have c7 : Tryd.prog.cellsOf 33 = 7 := by kernel_rfl
    have hs6 : SizeOf.sizeOf y6.1 ≤ N := by
      rw [hx] at hN
      simp at hN
      omega
    rcases open_slice Tryd.underlying31 t6 with ⟨hc, _⟩ | ⟨a, len, cap, mm, n', D, Pl, hcs, hb, hl, hm, hmm, hx6, hi⟩
    · cases hc
      exact ⟨k, l, q, fa, ea, sa, none, fn, fc, en, ec, sn, sc, 0, 0, e, m, ee, rfl, ⟨by omega, by omega, by omega, by omega⟩, i64_wf wl, hie, hls, fun h => absurd h (by omega)⟩
    · cases hcs
      refine ⟨k, l, q, fa, ea, sa, some a, fn, fc, en, ec, sn, sc, len, cap, e, m, ee, rfl, ⟨by omega, by omega, by omega, by omega⟩, i64_wf wl, hie, hls, fun hk => ?_⟩
      have hnm : len ≤ mm := by rw [hmm]; split <;> omega
      rw [c7] at hi
      obtain ⟨b, off, spot⟩ := a
      have hsp : spot = none := by
        obtain ⟨cs0, hc0, _⟩ := hi 0 (by omega)
        obtain ⟨_, hcl, hat⟩ := World.cells?_some hc0
        have h0 := hat 0 (by omega)
        have hv : cs0[0]? = some (cs0[0]'(by omega)) := List.getElem?_eq_getElem (by omega)
        rw [hv] at h0
        simpa [Addr.add] using World.cell?_spot h0
      subst hsp
      refine ⟨b, off, rfl, fun i hil => ?_⟩
      obtain ⟨cs', hc', ht'⟩ := hi i (by omega)
      obtain ⟨_, hcl, hat⟩ := World.cells?_some hc'
      refine ⟨cs'.toArray, fun j hj => ?_, by simpa using hcl, ?_⟩
      · have h1 := hat j (by omega)
        rw [plain_addr, plain_addr] at h1
        simpa using h1
      · refine tree_of N n' cs' _ ?_ ht'
        rw [hx6] at hs6
        have h2 : SizeOf.sizeOf (D i) < SizeOf.sizeOf ((List.range len).map D) := List.sizeOf_lt_of_mem (List.mem_map.2 ⟨i, List.mem_range.2 hil, rfl⟩)
        simp at hs6
        show SizeOf.sizeOf (D i) ≤ N
        omega
theorem open_geom {fuel : Nat} {cs : Array Value} {x : DataW H × List MemPlace} (h : DataW.trod enc Tryd.prog W base sp held fuel 33 cs.toList = some x) :
    ∃ (D : Nat) (k l q : Int) (fa ea sa ka : Option Addr) (fn fc en ec sn sc kn kc : Nat) (xs : Nat → Nat) (e : Nat → Int) (m : Nat → Nat) (ee : Nat → Nat → Int),
      cs = geomC k l q (.slice fa fn fc) (.slice ea en ec) (.slice sa sn sc) (.slice ka kn kc) ∧ GTree W D cs ∧ FRowO W fa fn xs ∧ IRow W ea en e ∧ LRow W sa sn m ee ∧ fn ≤ fc ∧ fc ≤ maxLen ∧ en ≤ maxLen ∧ kn ≤ maxLen := by
  have ht := tree_of _ fuel cs.toList x (Nat.le_refl _) h
  obtain ⟨v0, v1, v2, v3, v4, v5, v6, y0, y1, y2, y3, y4, y5, y6, n, hcs, hx, t0, t1, t2, t3, t4, t5, t6⟩ := geom_fields h
  obtain ⟨k, e0, _, _⟩ := DataW.trod_int Tryd.underlying3 t0
  obtain ⟨l, e1, _, _⟩ := DataW.trod_int Tryd.underlying3 t1
  obtain ⟨q, e2, _, _⟩ := DataW.trod_int Tryd.underlying3 t2
  obtain ⟨fa, fn, fc, xs, rfl, f1, f2, hfr⟩ := trod_floats t3
  obtain ⟨ea, en, ec, e, rfl, g1, g2, hie⟩ := trod_ints t4
  obtain ⟨sa, sn, sc, m, ee, rfl, l1, l2, hls⟩ := trod_introws t5
  have hk0 : v0 = .int .i64 k := by simpa using e0
  have hk1 : v1 = .int .i64 l := by simpa using e1
  have hk2 : v2 = .int .i64 q := by simpa using e2
  subst hk0 hk1 hk2
  have hc : cs = [.int .i64 k, .int .i64 l, .int .i64 q, .slice fa fn fc, .slice ea en ec, .slice sa sn sc, v6].toArray := by rw [← hcs]
  rcases open_slice Tryd.underlying31 t6 with ⟨h6, _⟩ | ⟨a, len, cap, mm, n', D, Pl, h6, hb, hl, hm, hmm, hx6, hi⟩
  · cases h6
    exact ⟨_, k, l, q, fa, ea, sa, none, fn, fc, en, ec, sn, sc, 0, 0, xs, e, m, ee, hc, ht, hfr, hie, hls, f1, f2, by omega, by omega⟩
  · cases h6
    exact ⟨_, k, l, q, fa, ea, sa, some a, fn, fc, en, ec, sn, sc, len, cap, xs, e, m, ee, hc, ht, hfr, hie, hls, f1, f2, by omega, by omega⟩
end
end Go.Proofs.YtodihpaabkplhaaDoor

namespace Go.Proofs.YtodihpaabkplhaaDoor.fnPointsText
open Go.ChangeShapes Go.WideShapes Go.ChangeAt Go.RowKit Go.Deep

theorem laid_same : Rows.fnPointsTextRow.laid = laidL := rfl

set_option maxRecDepth 100000 in
theorem lifted (os : Os) (started : os.Started) (H : Type) (enc : TypeId × Value → H) :
    ReturnsInHanded {} Tryd.checked os 5 .any (fun w args => (Rows.fnPointsTextSpec.pre enc Tryd.prog Tryd.f5 [] false w args ∧ laidMetH Tryd.prog laidL w) ∧ sizedMet enc Tryd.prog Tryd.f5 (OpenSpec.ofChange Rows.fnPointsTextSpec) false w args)
      (Rows.fnPointsTextSpec.post enc Tryd.prog Tryd.f5 false true false false) := by
  refine returnsInHanded_of_change_and (C := Tryd.checked) (X := fun w _ => laidMetH Tryd.prog laidL w) (fun _ _ _ hh h => h.of_heap hh) own started (by kernel_rfl) Tryd.func5
    (ChangeSpec.witness_shaped (enc := enc) (C := Tryd.checked) (os := os) (X := fun w _ => laidMetH Tryd.prog laidL w) false (World.laidAll Tryd.prog os laidL) #[.agg #[.int .i64 0, .int .i64 0, .int .i64 0, .slice none 0 0, .slice none 0 0, .slice none 0 0, .slice none 0 0], .int .i64 0] 8 (World.laidAll_os _ _ _) (wit_shaped os _) (by kernel_rfl) (by kernel_rfl) (by kernel_rfl) (wit_met os _)) ?_
  intro W base args ds gs before hval0 hW _ _ hL _
  have hval : ∀ (j : Nat) t v, Tryd.f5.params[j]? = some t → args[j]? = some v → Value.okWide Tryd.prog W .any base t v := hval0
  have hW' := hW
  obtain ⟨p, q, hA0, hV, rfl, hfz, hnd⟩ := hW
  have hA : DataW.TrodAll enc Tryd.prog W 0 (fun _ => true) true Tryd.f5.params.toList args.toList ds p := hA0
  rw [Tryd.params5] at hA hval
  obtain ⟨v0, v1, dd0, dd1, p0, p1, rfl, rfl, rfl, h0, h1⟩ := trodAll_two hA
  obtain ⟨rfl, rfl⟩ := trodVars_none hV
  obtain ⟨cs0, rfl, _⟩ := okWide_struct Tryd.underlying33 (hval 0 33 v0 rfl rfl)
  obtain ⟨fu0, hf0⟩ := h0
  have hf0' : DataW.trod enc Tryd.prog W 0 (fun _ => true) true fu0 33 cs0.toList = some (dd0, p0) := hf0
  obtain ⟨D, k, l, q', fa, ea, sa, ka, fn, fc, en, ec, sn, sc, kn, kc, xs, e, m, ee, he0, htr, hfr, hie, hls, hnc, hcm, hen, hkn⟩ := open_geom hf0'
  have h0 : DataW.Trod enc Tryd.prog W 0 (fun _ => true) true 33 (.agg cs0) dd0 p0 := ⟨fu0, hf0⟩
  subst he0
  obtain ⟨dg, rfl, rfl, rfl, wdg⟩ := open_int Tryd.underlying3 (hval 1 3 v1 rfl rfl) h1
  have rdg := i64_wf wdg
  have hL2 : laidMet Tryd.prog laidL W := by rw [← MakeChecks.laidMetH_plain _ _ _ laid_plain]; exact hL
  obtain ⟨cb, co, T⟩ := tabs_of_laid hL2 (by simp [laidL, Rows.fnPlaceTextRow]) (by simp [laidL, Rows.fnPlaceTextRow]) (by simp [laidL, Rows.fnPlaceTextRow]) (by simp [laidL, Rows.fnPlaceTextRow])
  clear hA0 hval0
  simp only [List.append_nil] at hW'
  refine (fnPointsText_any cb co D k l q' fa ea sa ka fn fc en ec sn sc kn kc xs e m ee dg W T htr hfr hie hls hnc hcm hen hkn rdg.1 rdg.2).mono fun e W' ⟨he, hB⟩ => ?_
  subst he
  have hlt0 : ∀ x ∈ p0, x.block < W.heap.size := fun x hx => hW'.lt x (by simp [hx])
  refine ⟨_, rfl, [dd0, .lit (.int .i64 dg)], [], _, [], _, [], hW', trodAll_mk1 (shut_bool Tryd.underlying4 _), trodAll_mk2 (Below.trod laidOut (by kernel_rfl) (of_decide_eq_true (by kernel_rfl)) h0 hB hlt0) (shut_int Tryd.underlying3 wdg), rfl, ?_, fun h => by cases h⟩
  exact hB.frame _

theorem said : Rows.FnPointsTextSaid :=
  OpenClaim.holds_of_wide 5 Tryd.f5 rfl rfl rfl rfl rfl rfl rfl ⟨rfl, rfl, rfl, rfl, rfl⟩ rfl rfl rfl rfl rfl (by kernel_rfl) Tryd.func5 (by kernel_rfl)
    (of_decide_eq_true (by kernel_rfl)) (by unfold Func.isWrapper; first | (rw [if_pos (by decide +kernel)]; kernel_rfl) | (rw [if_neg (by decide +kernel)]; exact ⟨rfl, rfl⟩))
    (fun os started H enc _ => lifted os started H enc)

/-- No parameter wants a stand-in; the program's own looks are off: what the card asks. -/
theorem plain (f : FuncId) (fn : Func) (hf : Tryd.pinned.checked.prog.funcNamed "pub-orthodrome/laws.FnPointsText" = some f) (hfn : Tryd.pinned.checked.prog.funcs[f]? = some fn) :
    false = Tryd.pinned.checked.prog.looks [] ∧ ∀ (j : Nat) t, fn.params[j]? = some t → Tryd.pinned.checked.prog.wantsStandIn t = false := by
  obtain rfl : f = 5 := Option.some.inj ((show Tryd.prog.funcNamed "pub-orthodrome/laws.FnPointsText" = some 5 by kernel_rfl).symm.trans hf) |>.symm
  obtain rfl : fn = Tryd.f5 := (Option.some.inj (Tryd.func5.symm.trans hfn)).symm
  refine ⟨by kernel_rfl, fun j t ht => ?_⟩
  rw [Tryd.params5] at ht
  have hm : t ∈ [33, 3] := by
    have h := Array.mem_of_getElem? ht
    simp at h ⊢
    omega
  have hall : ([33, 3].all fun u => !Tryd.prog.wantsStandIn u) = true := by kernel_rfl
  exact (show Tryd.prog.wantsStandIn t = false by simpa using List.all_eq_true.1 hall t hm)

/-- THE CARD. -/
theorem card : Rows.FnPointsTextCardSaid :=
  Claim7.holds_tied_plain_at .later [] _ _ _ _ said (fun _ h => by cases h) (by kernel_rfl) (fun _ h => by cases h) fnPointsText_row_tie rfl ⟨rfl, rfl⟩ (by kernel_rfl) rfl plain (by kernel_rfl)
#print axioms card
end Go.Proofs.YtodihpaabkplhaaDoor.fnPointsText
