/- FnLineText: the row and the card. -/
import Derived.Test.YtodihpaabkplhaaDoorCards
import Derived.Test.YtodihpaabkplhaaDoorTie
import Derived.Test.YtodihpaabkplhaaDoorLlt
import Derived.Test.YtodihpaabkplhaaDoorOpn
import Derived.Carry
namespace Go.Proofs.YtodihpaabkplhaaDoor.fnLineText
open Go.ChangeShapes Go.WideShapes Go.ChangeAt Go.RowKit Go.Deep

theorem laid_same : Rows.fnLineTextRow.laid = laidL := rfl

set_option maxRecDepth 100000 in
theorem lifted (os : Os) (started : os.Started) (H : Type) (enc : TypeId × Value → H) :
    ReturnsInHanded {} Tryd.checked os 4 .any (fun w args => (Rows.fnLineTextSpec.pre enc Tryd.prog Tryd.f4 [] false w args ∧ laidMetH Tryd.prog laidL w) ∧ sizedMet enc Tryd.prog Tryd.f4 (OpenSpec.ofChange Rows.fnLineTextSpec) false w args)
      (Rows.fnLineTextSpec.post enc Tryd.prog Tryd.f4 false true false false) := by
  refine returnsInHanded_of_change_and (C := Tryd.checked) (X := fun w _ => laidMetH Tryd.prog laidL w) (fun _ _ _ hh h => h.of_heap hh) own started (by kernel_rfl) Tryd.func4
    (ChangeSpec.witness_shaped (enc := enc) (C := Tryd.checked) (os := os) (X := fun w _ => laidMetH Tryd.prog laidL w) false (World.laidAll Tryd.prog os laidL) #[.slice none 0 0, .int .i64 0, .int .i64 0] 8 (World.laidAll_os _ _ _) (wit_shaped os _) (by kernel_rfl) (by kernel_rfl) (by kernel_rfl) (wit_met os _)) ?_
  intro W base args ds gs before hval0 hW _ _ hL _
  have hval : ∀ (j : Nat) t v, Tryd.f4.params[j]? = some t → args[j]? = some v → Value.okWide Tryd.prog W .any base t v := hval0
  have hW' := hW
  obtain ⟨p, q, hA0, hV, rfl, hfz, hnd⟩ := hW
  have hA : DataW.TrodAll enc Tryd.prog W 0 (fun _ => true) true Tryd.f4.params.toList args.toList ds p := hA0
  rw [Tryd.params4] at hA hval
  obtain ⟨v0, v1, v2, dd0, dd1, dd2, p0, p1, p2, rfl, rfl, rfl, h0, h1, h2⟩ := trodAll_three hA
  obtain ⟨rfl, rfl⟩ := trodVars_none hV
  obtain ⟨z0, y0, x0, rfl⟩ := okWide_slice Tryd.underlying22 (hval 0 22 v0 rfl rfl)
  obtain ⟨fu0, hf0⟩ := h0
  have hf0' : DataW.trod enc Tryd.prog W 0 (fun _ => true) true fu0 22 [.slice z0 y0 x0] = some (dd0, p0) := hf0
  obtain ⟨ao, n, cap, xs, he0, hnc, hcm, hr⟩ := trod_floats hf0'
  cases he0
  have h0 : DataW.Trod enc Tryd.prog W 0 (fun _ => true) true 22 (.slice z0 y0 x0) dd0 p0 := ⟨fu0, hf0⟩
  obtain ⟨sg, rfl, rfl, rfl, wsg⟩ := open_int Tryd.underlying3 (hval 1 3 v1 rfl rfl) h1
  have rsg := i64_wf wsg
  obtain ⟨dg, rfl, rfl, rfl, wdg⟩ := open_int Tryd.underlying3 (hval 2 3 v2 rfl rfl) h2
  have rdg := i64_wf wdg
  have hL2 : laidMet Tryd.prog laidL W := by rw [← MakeChecks.laidMetH_plain _ _ _ laid_plain]; exact hL
  obtain ⟨cb, co, T⟩ := tabs_of_laid hL2 (by simp [laidL, Rows.fnPlaceTextRow]) (by simp [laidL, Rows.fnPlaceTextRow]) (by simp [laidL, Rows.fnPlaceTextRow]) (by simp [laidL, Rows.fnPlaceTextRow])
  clear hA0 hval0
  simp only [List.append_nil] at hW'
  refine (fnLineText_any cb co y0 x0 z0 xs sg dg W T hr hnc hcm rsg.1 rsg.2 rdg.1 rdg.2).mono fun e W' ⟨he, hB⟩ => ?_
  subst he
  have hlt0 : ∀ x ∈ p0, x.block < W.heap.size := fun x hx => hW'.lt x (by simp [hx])
  refine ⟨_, rfl, [dd0, .lit (.int .i64 sg), .lit (.int .i64 dg)], [], _, [], _, [], hW', trodAll_mk1 (shut_bool Tryd.underlying4 _), trodAll_mk3 (Below.trod laidOut (by kernel_rfl) (of_decide_eq_true (by kernel_rfl)) h0 hB hlt0) (shut_int Tryd.underlying3 wsg) (shut_int Tryd.underlying3 wdg), rfl, ?_, fun h => by cases h⟩
  exact hB.frame _

theorem said : Rows.FnLineTextSaid :=
  OpenClaim.holds_of_wide 4 Tryd.f4 rfl rfl rfl rfl rfl rfl rfl ⟨rfl, rfl, rfl, rfl, rfl⟩ rfl rfl rfl rfl rfl (by kernel_rfl) Tryd.func4 (by kernel_rfl)
    (of_decide_eq_true (by kernel_rfl)) (by unfold Func.isWrapper; first | (rw [if_pos (by decide +kernel)]; kernel_rfl) | (rw [if_neg (by decide +kernel)]; exact ⟨rfl, rfl⟩))
    (fun os started H enc _ => lifted os started H enc)

/-- No parameter wants a stand-in; the program's own looks are off: what the card asks. -/
theorem plain (f : FuncId) (fn : Func) (hf : Tryd.pinned.checked.prog.funcNamed "pub-orthodrome/laws.FnLineText" = some f) (hfn : Tryd.pinned.checked.prog.funcs[f]? = some fn) :
    false = Tryd.pinned.checked.prog.looks [] ∧ ∀ (j : Nat) t, fn.params[j]? = some t → Tryd.pinned.checked.prog.wantsStandIn t = false := by
  obtain rfl : f = 4 := Option.some.inj ((show Tryd.prog.funcNamed "pub-orthodrome/laws.FnLineText" = some 4 by kernel_rfl).symm.trans hf) |>.symm
  obtain rfl : fn = Tryd.f4 := (Option.some.inj (Tryd.func4.symm.trans hfn)).symm
  refine ⟨by kernel_rfl, fun j t ht => ?_⟩
  rw [Tryd.params4] at ht
  have hm : t ∈ [22, 3] := by
    have h := Array.mem_of_getElem? ht
    simp at h ⊢
    omega
  have hall : ([22, 3].all fun u => !Tryd.prog.wantsStandIn u) = true := by kernel_rfl
  exact (show Tryd.prog.wantsStandIn t = false by simpa using List.all_eq_true.1 hall t hm)

/-- THE CARD. -/
theorem card : Rows.FnLineTextCardSaid :=
  Claim7.holds_tied_plain_at .later [] _ _ _ _ said (fun _ h => by cases h) (by kernel_rfl) (fun _ h => by cases h) fnLineText_row_tie rfl ⟨rfl, rfl⟩ (by kernel_rfl) rfl plain (by kernel_rfl)
#print axioms card
end Go.Proofs.YtodihpaabkplhaaDoor.fnLineText
