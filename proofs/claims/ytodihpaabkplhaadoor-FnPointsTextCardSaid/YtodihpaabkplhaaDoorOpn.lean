/- From the row's list of variables to the cells that the walks read; the argument shapes. A world for the witness: the listed variables hold what the row's list says. The laws' arguments opened: numbers in a row, ends, lists of ends. -/
import Derived.Test.YtodihpaabkplhaaDoorTab
import Derived.Test.YtodihpaabkplhaaDoorRows
import Derived.ProofKit
import Derived.OpenShut
import Derived.LaidMore
import Derived.Deep.SlicePairs
import Derived.Lib.LaidTab
import Derived.WalkKit
import Derived.Lay
import Derived.Deep.DeepHandedRow
import Derived.Test.YtodihpaabkplhaaDoorFlw

namespace Go.Proofs.YtodihpaabkplhaaDoor
open Go.ChangeShapes Go.WideShapes Go.ChangeAt Go.RowKit Go.Deep

theorem laid_mem {P : Program} {w : World} : ∀ (l : List (String × DataW Unit)) (ps : List MemPlace), DataW.LaidVars P w l ps → ∀ n d, (n, d) ∈ l →
    ∃ g t cs fuel p, P.globalNamed n = some g ∧ (P.globals[g]?).map (·.type) = some t ∧ w.var? P n = some cs ∧ DataW.trod (fun _ => ()) P w 0 (fun _ => true) false fuel t cs.toList = some (d, p)
  | [], _, _, _, _, hm => by cases hm
  | (n', d') :: r, ps, h, n, d, hm => by
    obtain ⟨g, t, cs, fuel, p, q, h1, h2, h3, h4, h5, _⟩ := h
    rcases List.mem_cons.1 hm with e | hm
    · cases e
      exact ⟨g, t, cs, fuel, p, h1, h2, h3, h4⟩
    · exact laid_mem r q h5 n d hm

theorem trod_float {H : Type} {enc : TypeId × Value → H} {P : Program} {w : World} {base : Nat} {sp : Nat → Bool} {held : Bool} {fuel : Nat} {t : TypeId} {k : FloatKind} {v : Value} {x : DataW H × List MemPlace}
    (ht : P.underlying t = some (.float k)) (h : DataW.trod enc P w base sp held fuel t [v] = some x) : ∃ b, v = .float k b ∧ (Lit.float k b).wf = true := by
  cases fuel with
  | zero => simp [DataW.trod] at h
  | succ n =>
    unfold DataW.trod at h
    rw [ht] at h
    cases v <;> simp_all
theorem trod_str {H : Type} {enc : TypeId × Value → H} {P : Program} {w : World} {base : Nat} {sp : Nat → Bool} {held : Bool} {fuel : Nat} {t : TypeId} {v : Value} {x : DataW H × List MemPlace}
    (ht : P.underlying t = some .string) (h : DataW.trod enc P w base sp held fuel t [v] = some x) : ∃ s : ByteArray, v = .string s ∧ x.1 = .lit (.string s.data.toList) := by
  cases fuel with
  | zero => simp [DataW.trod] at h
  | succ n =>
    unfold DataW.trod at h
    rw [ht] at h
    cases v <;> simp_all
    · rw [← h.2]

theorem g_opt : Tryd.prog.globalNamed "internal/strconv.optimize" = some 0 := by kernel_rfl
theorem g_p10 : Tryd.prog.globalNamed "internal/strconv.uint64pow10" = some 1 := by kernel_rfl
theorem g_tab : Tryd.prog.globalNamed "internal/strconv.pow10Tab" = some 2 := by kernel_rfl
theorem g_cheat : Tryd.prog.globalNamed "internal/strconv.leftcheats" = some 3 := by kernel_rfl

theorem p10_list : ∀ i : Fin 20, ([1, 10, 100, 1000, 10000, 100000, 1000000, 10000000, 100000000, 1000000000, 10000000000, 100000000000, 1000000000000, 10000000000000, 100000000000000, 1000000000000000, 10000000000000000, 100000000000000000, 1000000000000000000, 10000000000000000000] : List Int).getD i.val 0 = ((10 ^ i.val : Nat) : Int) := by decide +kernel

theorem opt_cell {W : World} {laid : List (String × DataW Unit)} (h : laidMet Tryd.prog laid W) (hm : ("internal/strconv.optimize", Rows.laid_internal_strconv_optimize) ∈ laid) : W.cell? ⟨0, 0, none⟩ = some (.bool true) := by
  obtain ⟨ps, hl, _⟩ := h
  obtain ⟨g, t, cs, fuel, p, hg, ht, hv, hd⟩ := laid_mem laid ps hl _ _ hm
  obtain rfl := Option.some.inj (g_opt.symm.trans hg)
  obtain rfl := Option.some.inj ((show (Tryd.prog.globals[0]?).map (·.type) = some 4 by kernel_rfl).symm.trans ht)
  obtain ⟨b, hcs, hx⟩ := DataW.trod_bool Tryd.underlying4 hd
  have hb : b = true := by
    have := congrArg Prod.fst hx
    simp only [Rows.laid_internal_strconv_optimize] at this
    cases b
    · cases this
    · rfl
  subst hb
  have := World.var?_cell hg hv 0
  rw [this, Array.eq_one_of_toList hcs]
  rfl
theorem p10_cell {W : World} {laid : List (String × DataW Unit)} (h : laidMet Tryd.prog laid W) (hm : ("internal/strconv.uint64pow10", Rows.laid_internal_strconv_uint64pow10) ∈ laid) (i : Nat) (hi : i < 20) : W.cell? ⟨1, i, none⟩ = some (.int .u64 ((10 ^ i : Nat) : Int)) := by
  obtain ⟨ps, hl, _⟩ := h
  obtain ⟨g, t, cs, fuel, p, hg, ht, hv, hd⟩ := laid_mem laid ps hl _ _ hm
  obtain rfl := Option.some.inj (g_p10.symm.trans hg)
  obtain rfl := Option.some.inj ((show (Tryd.prog.globals[1]?).map (·.type) = some 132 by kernel_rfl).symm.trans ht)
  have hcs := Lib.cells_of_tab (k := .u64) (zs := [1, 10, 100, 1000, 10000, 100000, 1000000, 10000000, 100000000, 1000000000, 10000000000, 100000000000, 1000000000000, 10000000000000, 100000000000000, 1000000000000000, 10000000000000000, 100000000000000000, 1000000000000000000, 10000000000000000000]) Tryd.underlying132 Tryd.underlying96 (by kernel_rfl) (by kernel_rfl) hd
  have := World.var?_cell hg hv i
  rw [this, ← Array.getElem?_toList, hcs, List.getElem?_map]
  have hp := p10_list ⟨i, hi⟩
  simp only at hp
  rw [← hp, List.getD, List.getElem?_eq_getElem (by simpa using hi)]
  rfl
theorem tab_cells {W : World} {laid : List (String × DataW Unit)} (h : laidMet Tryd.prog laid W) (hm : ("internal/strconv.pow10Tab", Rows.laid_internal_strconv_pow10Tab) ∈ laid) (i : Nat) (hi : i < 696) :
    W.cell? ⟨2, i * 2, none⟩ = some (.int .u64 (pmHi i)) ∧ W.cell? ⟨2, i * 2 + 1, none⟩ = some (.int .u64 (pmLo i)) := by
  obtain ⟨ps, hl, _⟩ := h
  obtain ⟨g, t, cs, fuel, p, hg, ht, hv, hd⟩ := laid_mem laid ps hl _ _ hm
  obtain rfl := Option.some.inj (g_tab.symm.trans hg)
  obtain rfl := Option.some.inj ((show (Tryd.prog.globals[2]?).map (·.type) = some 143 by kernel_rfl).symm.trans ht)
  obtain ⟨xs, m, _, hx, hlen, hn, hel⟩ := DataW.trod_array Tryd.underlying143 hd
  have c2 : Tryd.prog.cellsOf 142 = 2 := by kernel_rfl
  have c1 : Tryd.prog.cellsOf 96 = 1 := by kernel_rfl
  have e := hel i hi
  rw [c2, List.getElem?_eq_getElem (by omega)] at e
  obtain ⟨y0, y1, n, hxy, hl2, h0, h1⟩ := trod_struct2 Tryd.underlying142 e
  simp only [c1, List.drop_zero] at h0 h1
  obtain ⟨z0, e0, f0, _⟩ := DataW.trod_int Tryd.underlying96 h0
  obtain ⟨z1, e1, f1, _⟩ := DataW.trod_int Tryd.underlying96 h1
  have hdat : (xs.map (·.1)) = Pinned.pow10Rows.map fun x => (DataW.agg [.lit (.int .u64 x.1), .lit (.int .u64 x.2)] : DataW Unit) := by
    have := congrArg Prod.fst hx
    simp only [Rows.laid_internal_strconv_pow10Tab, Pinned.pow10Tab, DataW.agg.injEq] at this
    exact this.symm
  have hir : i < Pinned.pow10Rows.length := by rw [pow10Rows_length]; exact hi
  have hat := congrArg (·[i]?) hdat
  simp only [List.getElem?_map, List.getElem?_eq_getElem (show i < xs.length by omega), List.getElem?_eq_getElem hir, Option.map_some, Option.some.injEq] at hat
  have hfst := congrArg Prod.fst hxy
  simp only at hfst
  rw [hat, f0, f1] at hfst
  simp only [DataW.agg.injEq, List.cons.injEq, DataW.lit.injEq, Lit.int.injEq, true_and, and_true] at hfst
  have g0 : cs[i * 2]? = some (.int .u64 z0) := by
    have := congrArg (·[0]?) e0
    simpa [List.getElem?_take, List.getElem?_drop] using this
  have g1 : cs[i * 2 + 1]? = some (.int .u64 z1) := by
    have := congrArg (·[0]?) e1
    simpa [List.getElem?_take, List.getElem?_drop] using this
  refine ⟨?_, ?_⟩
  · rw [World.var?_cell hg hv (i * 2), g0, ← hfst.1]
    unfold pmHi
    rw [List.getD, List.getElem?_eq_getElem hir]
    rfl
  · rw [World.var?_cell hg hv (i * 2 + 1), g1, ← hfst.2]
    unfold pmLo
    rw [List.getD, List.getElem?_eq_getElem hir]
    rfl

theorem cheatRows_length : Pinned.cheatRows.length = 61 := by kernel_rfl
theorem cheat_cells {W : World} {laid : List (String × DataW Unit)} (h : laidMet Tryd.prog laid W) (hm : ("internal/strconv.leftcheats", Rows.laid_internal_strconv_leftcheats) ∈ laid) :
    ∃ cb co, W.cell? ⟨3, 0, none⟩ = some (.slice (some ⟨cb, co, none⟩) 61 61) ∧ ∀ i, i < 61 → W.cell? ⟨cb, co + i * 2, none⟩ = some (.int .i64 (cheatD i)) ∧ W.cell? ⟨cb, co + i * 2 + 1, none⟩ = some (.string ⟨(cheatC i).toArray⟩) := by
  obtain ⟨ps, hl, _⟩ := h
  obtain ⟨g, t, cs, fuel, p, hg, ht, hv, hd⟩ := laid_mem laid ps hl _ _ hm
  obtain rfl := Option.some.inj (g_cheat.symm.trans hg)
  obtain rfl := Option.some.inj ((show (Tryd.prog.globals[3]?).map (·.type) = some 150 by kernel_rfl).symm.trans ht)
  rcases open_slice_pairs Tryd.underlying150 Tryd.underlying149 (by kernel_rfl) rfl rfl (by kernel_rfl) (by kernel_rfl) hd with ⟨_, hx⟩ | ⟨a, len, cap, m, n, V0, V1, D0, D1, P0, P1, hcs, _, hlc, _, hm2, hx, hel⟩
  · have := congrArg Prod.fst hx
    simp only [Rows.laid_internal_strconv_leftcheats, Pinned.leftcheats] at this
    cases this
  · simp only [if_true] at hm2
    subst hm2
    have hfst := congrArg Prod.fst hx
    simp only [Rows.laid_internal_strconv_leftcheats, Pinned.leftcheats, DataW.slice.injEq] at hfst
    obtain ⟨hd1, hd2⟩ := hfst
    have hlen : len = 61 := by
      have := congrArg List.length hd1
      rw [List.length_map, List.length_map, List.length_range, cheatRows_length] at this
      exact this.symm
    have hcap : m = 61 := by
      have := congrArg List.length hd2
      rw [List.length_map, List.length_range] at this
      simp only [List.length_nil] at this
      omega
    subst hlen hcap
    obtain ⟨cb, co, sp⟩ := a
    have h0 := (hel 0 (by omega)).1
    have hsp : sp = none := by
      cases sp with
      | none => rfl
      | some s =>
        simp [World.cell?, Addr.add] at h0
        split at h0 <;> cases h0
    subst hsp
    refine ⟨cb, co, ?_, fun i hi => ?_⟩
    · rw [World.var?_cell hg hv 0, Array.eq_one_of_toList hcs]
      rfl
    · obtain ⟨e0, e1, t0, t1⟩ := hel i hi
      have k0 : (⟨cb, co, none⟩ : Addr).add (i * 2) = ⟨cb, co + i * 2, none⟩ := by simp [Addr.add]
      have k1 : (⟨cb, co, none⟩ : Addr).add (i * 2 + 1) = ⟨cb, co + i * 2 + 1, none⟩ := by simp [Addr.add]; omega
      rw [k0] at e0
      rw [k1] at e1
      obtain ⟨z0, hz0, f0, _⟩ := DataW.trod_int Tryd.underlying3 t0
      obtain ⟨s1, hs1, f1⟩ := trod_str Tryd.underlying9 t1
      have hir : i < Pinned.cheatRows.length := by rw [cheatRows_length]; exact hi
      have hat := congrArg (·[i]?) hd1
      simp only [List.getElem?_map, List.getElem?_range hi, List.getElem?_eq_getElem hir, Option.map_some, Option.some.injEq] at hat
      have ff0 : D0 i = .lit (.int .i64 z0) := congrArg Prod.fst f0
      have ff1 : D1 i = .lit (.string s1.data.toList) := f1
      rw [ff0, ff1] at hat
      simp only [DataW.agg.injEq, List.cons.injEq, DataW.lit.injEq, Lit.int.injEq, Lit.string.injEq, true_and, and_true] at hat
      refine ⟨?_, ?_⟩
      · rw [e0]
        have : V0 i = .int .i64 z0 := by simpa using hz0
        rw [this, ← hat.1]
        unfold cheatD
        rw [List.getD, List.getElem?_eq_getElem hir]
        rfl
      · rw [e1, hs1]
        unfold cheatC
        rw [List.getD, List.getElem?_eq_getElem hir]
        have : s1 = ⟨(Pinned.cheatRows[i]).2.toArray⟩ := by
          rw [hat.2]
        rw [this]
        rfl

/-- WHAT THE ROW's LIST GIVES. -/
theorem tabs_of_laid {W : World} {laid : List (String × DataW Unit)} (h : laidMet Tryd.prog laid W) (m1 : ("internal/strconv.optimize", Rows.laid_internal_strconv_optimize) ∈ laid) (m2 : ("internal/strconv.uint64pow10", Rows.laid_internal_strconv_uint64pow10) ∈ laid)
    (m3 : ("internal/strconv.pow10Tab", Rows.laid_internal_strconv_pow10Tab) ∈ laid) (m4 : ("internal/strconv.leftcheats", Rows.laid_internal_strconv_leftcheats) ∈ laid) : ∃ cb co, Tabs cb co W := by
  obtain ⟨cb, co, hc, hr⟩ := cheat_cells h m4
  exact ⟨cb, co, { opt := opt_cell h m1, p10 := fun i hi => p10_cell h m2 i hi, hi := fun i hi => (tab_cells h m3 i hi).1, lo := fun i hi => (tab_cells h m3 i hi).2, ch := hc, delta := fun i hi => (hr i hi).1, cut := fun i hi => (hr i hi).2 }⟩
end Go.Proofs.YtodihpaabkplhaaDoor

namespace Go.Proofs.YtodihpaabkplhaaDoor
open Go.ChangeShapes Go.WideShapes Go.ChangeAt Go.RowKit

theorem own : ownKnob Tryd.prog.godebug = none := by kernel_rfl
theorem laidOut : laidOutB Tryd.prog = true := by kernel_rfl
noncomputable abbrev laidL : List (String × DataW Unit) := Rows.fnPlaceTextRow.laid
theorem laid_plain : (laidL.all fun x => x.2.handleName?.isNone) = true := by kernel_rfl
set_option maxRecDepth 100000 in
theorem wit_fits (os : Os) : (World.holding Tryd.prog os ⟨#[], #[], []⟩).layFits Tryd.prog laidL [] = true := by kernel_rfl
set_option maxRecDepth 100000 in
theorem wit_ifaces (os : Os) : (World.holding Tryd.prog os ⟨#[], #[], []⟩).layIfaces Tryd.prog laidL (World.laidAll Tryd.prog os laidL) = true := by kernel_rfl
theorem wit_met (os : Os) (args : Array Value) : laidMetH Tryd.prog laidL ((World.laidAll Tryd.prog os laidL).forCall (fun _ _ => 0) ⟨#[], args, []⟩).memory := by
  rw [MakeChecks.laidMetH_plain _ _ _ laid_plain]
  exact laidMet_laidAll args (wit_fits os) (wit_ifaces os)
set_option maxRecDepth 100000 in
theorem wit_shaped (os : Os) (args : Array Value) : ((World.laidAll Tryd.prog os laidL).forCall (fun _ _ => 0) ⟨#[], args, []⟩).Shaped Tryd.prog :=
  World.shaped_of_ZipB (by kernel_rfl) (by kernel_rfl)
end Go.Proofs.YtodihpaabkplhaaDoor

namespace Go.Proofs.YtodihpaabkplhaaDoor
open Go.ChangeShapes Go.WideShapes Go.ChangeAt Go.RowKit Go.Deep

theorem plain_addr (b off i : Nat) : (⟨b, off, none⟩ : Addr).add i = ⟨b, off + i, none⟩ := by
  unfold Addr.add
  split
  · rename_i h; rw [h, Nat.add_zero]
  · rfl

section
variable {H : Type} {enc : TypeId × Value → H} {W : World} {base : Nat} {sp : Nat → Bool} {held : Bool} {fuel : Nat} {x : DataW H × List MemPlace}

theorem trod_floats {v : Value} (h : DataW.trod enc Tryd.prog W base sp held fuel 22 [v] = some x) :
    ∃ (ao : Option Addr) (n cap : Nat) (xs : Nat → Nat), v = .slice ao n cap ∧ n ≤ cap ∧ cap ≤ maxLen ∧ FRowO W ao n xs := by
  rcases open_slice1 Tryd.underlying22 (by kernel_rfl) h with ⟨hc, _⟩ | ⟨a, len, cap, m, n, V, D, Pl, hc, _, hl, hm, hmm, hx, hel⟩
  · cases hc
    exact ⟨none, 0, 0, fun _ => 0, rfl, Nat.le_refl _, Nat.zero_le _, fun h => absurd h (by omega)⟩
  · cases hc
    have hnm : len ≤ m := by rw [hmm]; split <;> omega
    obtain ⟨b, off, spot⟩ := a
    rcases Nat.eq_zero_or_pos len with h0 | h0
    · subst h0
      exact ⟨_, 0, cap, fun _ => 0, rfl, hl, hm, fun h => absurd h (by omega)⟩
    have h1 := (hel 0 (by omega)).1
    have hsp : spot = none := by simpa [Addr.add] using World.cell?_spot h1
    subst hsp
    have each : ∀ i, i < len → ∃ y : Nat, W.cell? ⟨b, off + i, none⟩ = some (.float .f64 y) ∧ y < 18446744073709551616 := by
      intro i hi
      obtain ⟨e1, e2⟩ := hel i (by omega)
      rw [plain_addr] at e1
      obtain ⟨y, hV, hw⟩ := trod_float Tryd.underlying24 e2
      refine ⟨y, by rw [e1, hV], ?_⟩
      simpa [Lit.wf] using hw
    obtain ⟨xs, hxs⟩ := choose_lt each
    exact ⟨_, len, cap, xs, rfl, hl, hm, fun _ => ⟨b, off, rfl, hxs⟩⟩

theorem i64_wf {y : Int} (h : (Lit.int .i64 y).wf = true) : I64 y := by
  have hmin : IntKind.i64.min = -9223372036854775808 := by decide
  have hmax : IntKind.i64.max = 9223372036854775807 := by decide
  simp [Lit.wf, hmin, hmax] at h
  exact h

theorem trod_ints {v : Value} (h : DataW.trod enc Tryd.prog W base sp held fuel 29 [v] = some x) :
    ∃ (ao : Option Addr) (n cap : Nat) (e : Nat → Int), v = .slice ao n cap ∧ n ≤ cap ∧ cap ≤ maxLen ∧ IRow W ao n e := by
  rcases open_slice1 Tryd.underlying29 (by kernel_rfl) h with ⟨hc, _⟩ | ⟨a, len, cap, m, n, V, D, Pl, hc, _, hl, hm, hmm, hx, hel⟩
  · cases hc
    exact ⟨none, 0, 0, fun _ => 0, rfl, Nat.le_refl _, Nat.zero_le _, fun h => absurd h (by omega)⟩
  · cases hc
    have hnm : len ≤ m := by rw [hmm]; split <;> omega
    obtain ⟨b, off, spot⟩ := a
    rcases Nat.eq_zero_or_pos len with h0 | h0
    · subst h0
      exact ⟨_, 0, cap, fun _ => 0, rfl, hl, hm, fun h => absurd h (by omega)⟩
    have h1 := (hel 0 (by omega)).1
    have hsp : spot = none := by simpa [Addr.add] using World.cell?_spot h1
    subst hsp
    have each : ∀ i, i < len → ∃ y : Int, W.cell? ⟨b, off + i, none⟩ = some (.int .i64 y) ∧ I64 y := by
      intro i hi
      obtain ⟨e1, e2⟩ := hel i (by omega)
      rw [plain_addr] at e1
      obtain ⟨y, hV, _, hw⟩ := DataW.trod_int Tryd.underlying3 e2
      have hV' : V i = .int .i64 y := by simpa using hV
      exact ⟨y, by rw [e1, hV'], i64_wf hw⟩
    obtain ⟨xs, hxs⟩ := choose_lt each
    exact ⟨_, len, cap, xs, rfl, hl, hm, fun _ => ⟨b, off, rfl, hxs⟩⟩

theorem trod_introws {v : Value} (h : DataW.trod enc Tryd.prog W base sp held fuel 30 [v] = some x) :
    ∃ (so : Option Addr) (n cap : Nat) (m : Nat → Nat) (e : Nat → Nat → Int), v = .slice so n cap ∧ n ≤ cap ∧ cap ≤ maxLen ∧ LRow W so n m e := by
  rcases open_slice1 Tryd.underlying30 (by kernel_rfl) h with ⟨hc, _⟩ | ⟨a, len, cap, m, n, V, D, Pl, hc, _, hl, hm, hmm, hx, hel⟩
  · cases hc
    exact ⟨none, 0, 0, fun _ => 0, fun _ _ => 0, rfl, Nat.le_refl _, Nat.zero_le _, fun h => absurd h (by omega)⟩
  · cases hc
    have hnm : len ≤ m := by rw [hmm]; split <;> omega
    obtain ⟨b, off, spot⟩ := a
    rcases Nat.eq_zero_or_pos len with h0 | h0
    · subst h0
      exact ⟨_, 0, cap, fun _ => 0, fun _ _ => 0, rfl, hl, hm, fun h => absurd h (by omega)⟩
    have h1 := (hel 0 (by omega)).1
    have hsp : spot = none := by simpa [Addr.add] using World.cell?_spot h1
    subst hsp
    have each : ∀ i, i < len → ∃ y : Nat × (Nat → Int), ∃ ao cap, W.cell? ⟨b, off + i, none⟩ = some (.slice ao y.1 cap) ∧ y.1 ≤ cap ∧ cap ≤ maxLen ∧ IRow W ao y.1 y.2 := by
      intro i hi
      obtain ⟨e1, e2⟩ := hel i (by omega)
      rw [plain_addr] at e1
      obtain ⟨ao, n', cap', e', hV, h3, h4, h5⟩ := trod_ints e2
      exact ⟨(n', e'), ao, cap', by rw [e1, hV], h3, h4, h5⟩
    obtain ⟨ys, hys⟩ := choose_lt each
    exact ⟨_, len, cap, fun i => (ys i).1, fun i => (ys i).2, rfl, hl, hm, fun _ => ⟨b, off, rfl, hys⟩⟩
end
end Go.Proofs.YtodihpaabkplhaaDoor
