/- FnAreasText: the row and the card. -/
import Derived.Test.YtodihpaabkplhaaDoorCards
import Derived.Test.YtodihpaabkplhaaDoorTie
import Derived.Test.YtodihpaabkplhaaDoorLas
import Derived.Test.YtodihpaabkplhaaDoorOpn
import Derived.Carry
namespace Go.Proofs.YtodihpaabkplhaaDoor.fnAreasText
open Go.ChangeShapes Go.WideShapes Go.ChangeAt Go.RowKit Go.Deep

theorem laid_same : Rows.fnAreasTextRow.laid = laidL := rfl

set_option maxRecDepth 100000 in
theorem lifted (os : Os) (started : os.Started) (H : Type) (enc : TypeId × Value → H) :
    ReturnsInHanded {} Tryd.checked os 7 .any (fun w args => (Rows.fnAreasTextSpec.pre enc Tryd.prog Tryd.f7 [] false w args ∧ laidMetH Tryd.prog laidL w) ∧ sizedMet enc Tryd.prog Tryd.f7 (OpenSpec.ofChange Rows.fnAreasTextSpec) false w args)
      (Rows.fnAreasTextSpec.post enc Tryd.prog Tryd.f7 false true false false) := by
  refine returnsInHanded_of_change_and (C := Tryd.checked) (X := fun w _ => laidMetH Tryd.prog laidL w) (fun _ _ _ hh h => h.of_heap hh) own started (by kernel_rfl) Tryd.func7
    (ChangeSpec.witness_shaped (enc := enc) (C := Tryd.checked) (os := os) (X := fun w _ => laidMetH Tryd.prog laidL w) false (World.laidAll Tryd.prog os laidL) #[.slice none 0 0, .slice none 0 0, .int .i64 0, .int .i64 0] 8 (World.laidAll_os _ _ _) (wit_shaped os _) (by kernel_rfl) (by kernel_rfl) (by kernel_rfl) (wit_met os _)) ?_
  intro W base args ds gs before hval0 hW _ _ hL _
  have hval : ∀ (j : Nat) t v, Tryd.f7.params[j]? = some t → args[j]? = some v → Value.okWide Tryd.prog W .any base t v := hval0
  have hW' := hW
  obtain ⟨p, q, hA0, hV, rfl, hfz, hnd⟩ := hW
  have hA : DataW.TrodAll enc Tryd.prog W 0 (fun _ => true) true Tryd.f7.params.toList args.toList ds p := hA0
  rw [Tryd.params7] at hA hval
  obtain ⟨v0, v1, v2, v3, dd0, dd1, dd2, dd3, p0, p1, p2, p3, rfl, rfl, rfl, h0, h1, h2, h3⟩ := trodAll_four hA
  obtain ⟨rfl, rfl⟩ := trodVars_none hV
  obtain ⟨z0, y0, x0, rfl⟩ := okWide_slice Tryd.underlying22 (hval 0 22 v0 rfl rfl)
  obtain ⟨fu0, hf0⟩ := h0
  have hf0' : DataW.trod enc Tryd.prog W 0 (fun _ => true) true fu0 22 [.slice z0 y0 x0] = some (dd0, p0) := hf0
  obtain ⟨ao, n, cap, xs, he0, hnc, hcm, hr⟩ := trod_floats hf0'
  cases he0
  have h0 : DataW.Trod enc Tryd.prog W 0 (fun _ => true) true 22 (.slice z0 y0 x0) dd0 p0 := ⟨fu0, hf0⟩
  obtain ⟨z1, y1, x1, rfl⟩ := okWide_slice Tryd.underlying30 (hval 1 30 v1 rfl rfl)
  obtain ⟨fu1, hf1⟩ := h1
  have hf1' : DataW.trod enc Tryd.prog W 0 (fun _ => true) true fu1 30 [.slice z1 y1 x1] = some (dd1, p1) := hf1
  obtain ⟨so, sn, sc, mm, ee, he1, hec, hecm, hie⟩ := trod_introws hf1'
  cases he1
  have h1 : DataW.Trod enc Tryd.prog W 0 (fun _ => true) true 30 (.slice z1 y1 x1) dd1 p1 := ⟨fu1, hf1⟩
  obtain ⟨sg, rfl, rfl, rfl, wsg⟩ := open_int Tryd.underlying3 (hval 2 3 v2 rfl rfl) h2
  have rsg := i64_wf wsg
  obtain ⟨dg, rfl, rfl, rfl, wdg⟩ := open_int Tryd.underlying3 (hval 3 3 v3 rfl rfl) h3
  have rdg := i64_wf wdg
  have hL2 : laidMet Tryd.prog laidL W := by rw [← MakeChecks.laidMetH_plain _ _ _ laid_plain]; exact hL
  obtain ⟨cb, co, T⟩ := tabs_of_laid hL2 (by simp [laidL, Rows.fnPlaceTextRow]) (by simp [laidL, Rows.fnPlaceTextRow]) (by simp [laidL, Rows.fnPlaceTextRow]) (by simp [laidL, Rows.fnPlaceTextRow])
  clear hA0 hval0
  simp only [List.append_nil] at hW'
  refine (fnAreasText_any cb co y0 x0 y1 x1 z0 z1 xs mm ee sg dg W T hr hie hnc hcm hec hecm rsg.1 rsg.2 rdg.1 rdg.2).mono fun e W' ⟨he, hB⟩ => ?_
  subst he
  have hlt0 : ∀ x ∈ p0, x.block < W.heap.size := fun x hx => hW'.lt x (by simp [hx])
  have hlt1 : ∀ x ∈ p1, x.block < W.heap.size := fun x hx => hW'.lt x (by simp [hx])
  refine ⟨_, rfl, [dd0, dd1, .lit (.int .i64 sg), .lit (.int .i64 dg)], [], _, [], _, [], hW', trodAll_mk1 (shut_bool Tryd.underlying4 _), trodAll_mk4 (Below.trod laidOut (by kernel_rfl) (of_decide_eq_true (by kernel_rfl)) h0 hB hlt0) (Below.trod laidOut (by kernel_rfl) (of_decide_eq_true (by kernel_rfl)) h1 hB hlt1) (shut_int Tryd.underlying3 wsg) (shut_int Tryd.underlying3 wdg), rfl, ?_, fun h => by cases h⟩
  exact hB.frame _

theorem said : Rows.FnAreasTextSaid :=
  OpenClaim.holds_of_wide 7 Tryd.f7 rfl rfl rfl rfl rfl rfl rfl ⟨rfl, rfl, rfl, rfl, rfl⟩ rfl rfl rfl rfl rfl (by kernel_rfl) Tryd.func7 (by kernel_rfl)
    (of_decide_eq_true (by kernel_rfl)) (by unfold Func.isWrapper; first | (rw [if_pos (by decide +kernel)]; kernel_rfl) | (rw [if_neg (by decide +kernel)]; exact ⟨rfl, rfl⟩))
    (fun os started H enc _ => lifted os started H enc)

/-- No parameter wants a stand-in; the program's own looks are off: what the card asks. -/
theorem plain (f : FuncId) (fn : Func) (hf : Tryd.pinned.checked.prog.funcNamed "pub-orthodrome/laws.FnAreasText" = some f) (hfn : Tryd.pinned.checked.prog.funcs[f]? = some fn) :
    false = Tryd.pinned.checked.prog.looks [] ∧ ∀ (j : Nat) t, fn.params[j]? = some t → Tryd.pinned.checked.prog.wantsStandIn t = false := by
  obtain rfl : f = 7 := Option.some.inj ((show Tryd.prog.funcNamed "pub-orthodrome/laws.FnAreasText" = some 7 by kernel_rfl).symm.trans hf) |>.symm
  obtain rfl : fn = Tryd.f7 := (Option.some.inj (Tryd.func7.symm.trans hfn)).symm
  refine ⟨by kernel_rfl, fun j t ht => ?_⟩
  rw [Tryd.params7] at ht
  have hm : t ∈ [22, 30, 3] := by
    have h := Array.mem_of_getElem? ht
    simp at h ⊢
    omega
  have hall : ([22, 30, 3].all fun u => !Tryd.prog.wantsStandIn u) = true := by kernel_rfl
  exact (show Tryd.prog.wantsStandIn t = false by simpa using List.all_eq_true.1 hall t hm)

/-- THE CARD. -/
theorem card : Rows.FnAreasTextCardSaid :=
  Claim7.holds_tied_plain_at .later [] _ _ _ _ said (fun _ h => by cases h) (by kernel_rfl) (fun _ h => by cases h) fnAreasText_row_tie rfl ⟨rfl, rfl⟩ (by kernel_rfl) rfl plain (by kernel_rfl)
#print axioms card
end Go.Proofs.YtodihpaabkplhaaDoor.fnAreasText
