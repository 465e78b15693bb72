/- FnPlaceText: the row and the card. -/
import Derived.Test.YtodihpaabkplhaaDoorCards
import Derived.Test.YtodihpaabkplhaaDoorTie
import Derived.Test.YtodihpaabkplhaaDoorLpt
import Derived.Test.YtodihpaabkplhaaDoorLad
import Derived.Test.YtodihpaabkplhaaDoorWit
namespace Go.Proofs.YtodihpaabkplhaaDoor.fnPlaceText
open Go.ChangeShapes Go.WideShapes Go.ChangeAt Go.RowKit Go.Deep

theorem plain_add (b off i : Nat) : (⟨b, off, none⟩ : Addr).add i = ⟨b, off + i, none⟩ := by simp [Addr.add]

set_option maxRecDepth 100000 in
/-- A slice of numbers that came in: nil, or a row. -/
theorem open_floats {H : Type} {enc : TypeId × Value → H} {W : World} {base : Nat} {v : Value} {d : DataW H} {ps : List MemPlace} {sp : Nat → Bool} {held : Bool}
    (hval : Value.okWide Tryd.prog W .any base 22 v) (h : DataW.Trod enc Tryd.prog W 0 sp held 22 v d ps) :
    ∃ (ao : Option Addr) (n cap : Nat), v = .slice ao n cap ∧ n ≤ maxLen ∧ (0 < n → ∃ (blk off : Nat) (xs : Nat → Nat), ao = some ⟨blk, off, none⟩ ∧ FRow W blk off n xs) := by
  obtain ⟨a0, n0, c0, rfl⟩ := okWide_slice Tryd.underlying22 hval
  obtain ⟨fuel, hf⟩ := h
  have hf' : DataW.trod enc Tryd.prog W 0 sp held fuel 22 [.slice a0 n0 c0] = some (d, ps) := hf
  rcases open_slice1 Tryd.underlying22 (by kernel_rfl) hf' with ⟨hc, _⟩ | ⟨a, len, cap, m, n, V, D, Pl, hc, _, hl, hm, hmm, hx, hel⟩
  · cases hc
    exact ⟨none, 0, 0, rfl, Nat.zero_le _, fun h => absurd h (by omega)⟩
  · cases hc
    refine ⟨some a, n0, c0, rfl, by omega, fun h0 => ?_⟩
    have hnm : n0 ≤ m := by rw [hmm]; split <;> omega
    obtain ⟨b, off, spot⟩ := a
    have h1 := (hel 0 (by omega)).1
    have hsp : spot = none := by simpa [Addr.add] using World.cell?_spot h1
    subst hsp
    have each : ∀ i, i < n0 → ∃ x : Nat, W.cell? ⟨b, off + i, none⟩ = some (.float .f64 x) ∧ x < 18446744073709551616 := by
      intro i hi
      obtain ⟨e1, e2⟩ := hel i (by omega)
      rw [plain_add] at e1
      obtain ⟨x, hV, hw⟩ := trod_float Tryd.underlying24 e2
      refine ⟨x, by rw [e1, hV], ?_⟩
      simpa [Lit.wf] using hw
    obtain ⟨xs, hxs⟩ := choose_lt each
    exact ⟨b, off, xs, rfl, hxs⟩

theorem walk (W : World) (cb co : Nat) (T : Tabs cb co W) (ao : Option Addr) (n cap : Nat) (d : Int) (hn : n ≤ maxLen) (hr : 0 < n → ∃ (blk off : Nat) (xs : Nat → Nat), ao = some ⟨blk, off, none⟩ ∧ FRow W blk off n xs)
    (d0 : -9223372036854775808 ≤ d) (d1 : d ≤ 9223372036854775807) :
    Calls Tryd.prog 3 #[.slice ao n cap, .int .i64 d] W fun e w' => e = .returned (.bool true) ∧ Below W.heap.size W w' := by
  by_cases h : n < 1 ∨ 9 < n ∨ d < -1 ∨ 20 < d
  · refine (fnPlaceText_idle ao n cap d W d0 d1 (by unfold maxLen at hn; omega) h).mono ?_
    rintro e w ⟨he, rfl⟩
    exact ⟨he, Below.refl _ _⟩
  · obtain ⟨blk, off, xs, rfl, hx⟩ := hr (by omega)
    exact fnPlaceText_main cb co blk off n cap xs d W T hx (by omega) (by omega) (by omega) (by omega)

set_option maxRecDepth 100000 in
theorem lifted (os : Os) (started : os.Started) (H : Type) (enc : TypeId × Value → H) :
    ReturnsInHanded {} Tryd.checked os 3 .any (fun w args => (Rows.fnPlaceTextSpec.pre enc Tryd.prog Tryd.f3 [] false w args ∧ laidMetH Tryd.prog laidL w) ∧ sizedMet enc Tryd.prog Tryd.f3 (OpenSpec.ofChange Rows.fnPlaceTextSpec) false w args)
      (Rows.fnPlaceTextSpec.post enc Tryd.prog Tryd.f3 false true false false) := by
  refine returnsInHanded_of_change_and (C := Tryd.checked) (X := fun w _ => laidMetH Tryd.prog laidL w) (fun _ _ _ hh h => h.of_heap hh) own started (by kernel_rfl) Tryd.func3
    (ChangeSpec.witness_shaped (enc := enc) (C := Tryd.checked) (os := os) (X := fun w _ => laidMetH Tryd.prog laidL w) false (World.laidAll Tryd.prog os laidL) #[.slice none 0 0, .int .i64 0] 8 (World.laidAll_os _ _ _) (wit_shaped os _) (by kernel_rfl) (by kernel_rfl) (by kernel_rfl) (wit_met os _)) ?_
  intro W base args ds gs before hval0 hW _ _ hL _
  have hval : ∀ (j : Nat) t v, Tryd.f3.params[j]? = some t → args[j]? = some v → Value.okWide Tryd.prog W .any base t v := hval0
  have hW' := hW
  obtain ⟨p, q, hA0, hV, rfl, hfz, hnd⟩ := hW
  have hA : DataW.TrodAll enc Tryd.prog W 0 (fun _ => true) true Tryd.f3.params.toList args.toList ds p := hA0
  rw [Tryd.params3] at hA hval
  obtain ⟨v0, v1, dd0, dd1, p0, p1, rfl, rfl, rfl, h0, h1⟩ := trodAll_two hA
  obtain ⟨rfl, rfl⟩ := trodVars_none hV
  obtain ⟨ao, n, cap, rfl, hn, hr⟩ := open_floats (hval 0 22 v0 rfl rfl) h0
  obtain ⟨dg, rfl, rfl, rfl, wd⟩ := open_int Tryd.underlying3 (hval 1 3 v1 rfl rfl) h1
  have hL2 : laidMet Tryd.prog laidL W := by rw [← MakeChecks.laidMetH_plain _ _ _ laid_plain]; exact hL
  obtain ⟨cb, co, T⟩ := tabs_of_laid hL2 (by simp [laidL, Rows.fnPlaceTextRow]) (by simp [laidL, Rows.fnPlaceTextRow]) (by simp [laidL, Rows.fnPlaceTextRow]) (by simp [laidL, Rows.fnPlaceTextRow])
  clear hA0 hval0
  simp only [List.append_nil] at hW'
  have hmin : IntKind.i64.min = -9223372036854775808 := by decide
  have hwf : -9223372036854775808 ≤ dg ∧ dg ≤ 9223372036854775807 := by
    have h := wd
    simp [Lit.wf, hmin] at h
    exact h
  refine (walk W cb co T ao n cap dg hn hr hwf.1 hwf.2).mono fun e W' ⟨he, hB⟩ => ?_
  subst he
  have hlt : ∀ x ∈ p0, x.block < W.heap.size := fun x hx => hW'.lt x (by simpa using hx)
  exact ⟨_, rfl, [dd0, .lit (.int .i64 dg)], [], _, [], _, [], hW', trodAll_mk1 (shut_bool Tryd.underlying4 _), trodAll_mk2 (Below.trod laidOut (by kernel_rfl) (of_decide_eq_true (by kernel_rfl)) h0 hB hlt) (shut_int Tryd.underlying3 wd), rfl, hB.frame _, fun h => by cases h⟩

theorem said : Rows.FnPlaceTextSaid :=
  OpenClaim.holds_of_wide 3 Tryd.f3 rfl rfl rfl rfl rfl rfl rfl ⟨rfl, rfl, rfl, rfl, rfl⟩ rfl rfl rfl rfl rfl (by kernel_rfl) Tryd.func3 (by kernel_rfl)
    (of_decide_eq_true (by kernel_rfl)) (by unfold Func.isWrapper; first | (rw [if_pos (by decide +kernel)]; kernel_rfl) | (rw [if_neg (by decide +kernel)]; exact ⟨rfl, rfl⟩))
    (fun os started H enc _ => lifted os started H enc)

/-- No parameter wants a stand-in; the program's own looks are off: what the card asks. -/
theorem plain (f : FuncId) (fn : Func) (hf : Tryd.pinned.checked.prog.funcNamed "pub-orthodrome/laws.FnPlaceText" = some f) (hfn : Tryd.pinned.checked.prog.funcs[f]? = some fn) :
    false = Tryd.pinned.checked.prog.looks [] ∧ ∀ (j : Nat) t, fn.params[j]? = some t → Tryd.pinned.checked.prog.wantsStandIn t = false := by
  obtain rfl : f = 3 := Option.some.inj ((show Tryd.prog.funcNamed "pub-orthodrome/laws.FnPlaceText" = some 3 by kernel_rfl).symm.trans hf) |>.symm
  obtain rfl : fn = Tryd.f3 := (Option.some.inj (Tryd.func3.symm.trans hfn)).symm
  refine ⟨by kernel_rfl, fun j t ht => ?_⟩
  rw [Tryd.params3] at ht
  have hm : t ∈ [22, 3] := by simpa using Array.mem_of_getElem? ht
  have hall : ([22, 3].all fun u => !Tryd.prog.wantsStandIn u) = true := by kernel_rfl
  exact (show Tryd.prog.wantsStandIn t = false by simpa using List.all_eq_true.1 hall t hm)

/-- THE CARD. -/
theorem card : Rows.FnPlaceTextCardSaid :=
  Claim7.holds_tied_plain_at .later [] _ _ _ _ said (fun _ h => by cases h) (by kernel_rfl) (fun _ h => by cases h) fnPlaceText_row_tie rfl ⟨rfl, rfl⟩ (by kernel_rfl) rfl plain (by kernel_rfl)
#print axioms card
end Go.Proofs.YtodihpaabkplhaaDoor.fnPlaceText
