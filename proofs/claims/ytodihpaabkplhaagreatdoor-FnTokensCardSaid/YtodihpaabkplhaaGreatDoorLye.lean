/- FnTokens, as its card has it: for every text the law answers true, and the text reads behind the call as it read before. Conditions: the row's own (the listed package variables hold what the program's text lays), and no others. Ahead of it: from the row's list of variables to the cells that the walks read, and a world for the witness. -/
import Derived.Test.YtodihpaabkplhaaGreatDoorPtb
import Derived.Test.YtodihpaabkplhaaGreatDoorRows
import Derived.ProofKit
import Derived.OpenShut
import Derived.LaidMore
import Derived.Deep.SlicePairs
import Derived.Deep.Strs
import Derived.Lib.LaidTab
import Derived.WalkKit
import Derived.Lay
import Derived.Deep.DeepHandedRow
import Derived.Test.YtodihpaabkplhaaGreatDoorCards
import Derived.Test.YtodihpaabkplhaaGreatDoorTie
import Derived.Test.YtodihpaabkplhaaGreatDoorLyc
import Derived.Carry
import Derived.ChangeMaps5

namespace Go.Proofs.YtodihpaabkplhaaGreatDoor
open Go.ChangeShapes Go.WideShapes Go.ChangeAt Go.RowKit Go.Deep

theorem laid_mem {P : Program} {w : World} : ∀ (l : List (String × DataW Unit)) (ps : List MemPlace), DataW.LaidVars P w l ps → ∀ n d, (n, d) ∈ l →
    ∃ g t cs fuel p, P.globalNamed n = some g ∧ (P.globals[g]?).map (·.type) = some t ∧ w.var? P n = some cs ∧ DataW.trod (fun _ => ()) P w 0 (fun _ => true) false fuel t cs.toList = some (d, p)
  | [], _, _, _, _, hm => by cases hm
  | (n', d') :: r, ps, h, n, d, hm => by
    obtain ⟨g, t, cs, fuel, p, q, h1, h2, h3, h4, h5, _⟩ := h
    rcases List.mem_cons.1 hm with e | hm
    · cases e
      exact ⟨g, t, cs, fuel, p, h1, h2, h3, h4⟩
    · exact laid_mem r q h5 n d hm

theorem trod_float {H : Type} {enc : TypeId × Value → H} {P : Program} {w : World} {base : Nat} {sp : Nat → Bool} {held : Bool} {fuel : Nat} {t : TypeId} {k : FloatKind} {v : Value} {x : DataW H × List MemPlace}
    (ht : P.underlying t = some (.float k)) (h : DataW.trod enc P w base sp held fuel t [v] = some x) : ∃ b, v = .float k b ∧ (Lit.float k b).wf = true := by
  cases fuel with
  | zero => simp [DataW.trod] at h
  | succ n =>
    unfold DataW.trod at h
    rw [ht] at h
    cases v <;> simp_all
theorem trod_str {H : Type} {enc : TypeId × Value → H} {P : Program} {w : World} {base : Nat} {sp : Nat → Bool} {held : Bool} {fuel : Nat} {t : TypeId} {v : Value} {x : DataW H × List MemPlace}
    (ht : P.underlying t = some .string) (h : DataW.trod enc P w base sp held fuel t [v] = some x) : ∃ s : ByteArray, v = .string s ∧ x.1 = .lit (.string s.data.toList) := by
  cases fuel with
  | zero => simp [DataW.trod] at h
  | succ n =>
    unfold DataW.trod at h
    rw [ht] at h
    cases v <;> simp_all
    · rw [← h.2]

theorem g_opt : Tryz.prog.globalNamed "internal/strconv.optimize" = some 4 := by kernel_rfl
theorem g_p10 : Tryz.prog.globalNamed "internal/strconv.uint64pow10" = some 11 := by kernel_rfl
theorem g_tab : Tryz.prog.globalNamed "internal/strconv.pow10Tab" = some 9 := by kernel_rfl
theorem g_cheat : Tryz.prog.globalNamed "internal/strconv.leftcheats" = some 10 := by kernel_rfl

theorem p10_list : ∀ i : Fin 20, ([1, 10, 100, 1000, 10000, 100000, 1000000, 10000000, 100000000, 1000000000, 10000000000, 100000000000, 1000000000000, 10000000000000, 100000000000000, 1000000000000000, 10000000000000000, 100000000000000000, 1000000000000000000, 10000000000000000000] : List Int).getD i.val 0 = ((10 ^ i.val : Nat) : Int) := by decide +kernel

theorem opt_cell {W : World} {laid : List (String × DataW Unit)} (h : laidMet Tryz.prog laid W) (hm : ("internal/strconv.optimize", Rows.laid_internal_strconv_optimize) ∈ laid) : W.cell? ⟨4, 0, none⟩ = some (.bool true) := by
  obtain ⟨ps, hl, _⟩ := h
  obtain ⟨g, t, cs, fuel, p, hg, ht, hv, hd⟩ := laid_mem laid ps hl _ _ hm
  obtain rfl := Option.some.inj (g_opt.symm.trans hg)
  obtain rfl := Option.some.inj ((show (Tryz.prog.globals[4]?).map (·.type) = some 4 by kernel_rfl).symm.trans ht)
  obtain ⟨b, hcs, hx⟩ := DataW.trod_bool Tryz.underlying4 hd
  have hb : b = true := by
    have := congrArg Prod.fst hx
    simp only [Rows.laid_internal_strconv_optimize] at this
    cases b
    · cases this
    · rfl
  subst hb
  have := World.var?_cell hg hv 0
  rw [this, Array.eq_one_of_toList hcs]
  rfl
theorem p10_cell {W : World} {laid : List (String × DataW Unit)} (h : laidMet Tryz.prog laid W) (hm : ("internal/strconv.uint64pow10", Rows.laid_internal_strconv_uint64pow10) ∈ laid) (i : Nat) (hi : i < 20) : W.cell? ⟨11, i, none⟩ = some (.int .u64 ((10 ^ i : Nat) : Int)) := by
  obtain ⟨ps, hl, _⟩ := h
  obtain ⟨g, t, cs, fuel, p, hg, ht, hv, hd⟩ := laid_mem laid ps hl _ _ hm
  obtain rfl := Option.some.inj (g_p10.symm.trans hg)
  obtain rfl := Option.some.inj ((show (Tryz.prog.globals[11]?).map (·.type) = some 178 by kernel_rfl).symm.trans ht)
  have hcs := Lib.cells_of_tab (k := .u64) (zs := [1, 10, 100, 1000, 10000, 100000, 1000000, 10000000, 100000000, 1000000000, 10000000000, 100000000000, 1000000000000, 10000000000000, 100000000000000, 1000000000000000, 10000000000000000, 100000000000000000, 1000000000000000000, 10000000000000000000]) Tryz.underlying178 Tryz.underlying46 (by kernel_rfl) (by kernel_rfl) hd
  have := World.var?_cell hg hv i
  rw [this, ← Array.getElem?_toList, hcs, List.getElem?_map]
  have hp := p10_list ⟨i, hi⟩
  simp only at hp
  rw [← hp, List.getD, List.getElem?_eq_getElem (by simpa using hi)]
  rfl
theorem tab_cells {W : World} {laid : List (String × DataW Unit)} (h : laidMet Tryz.prog laid W) (hm : ("internal/strconv.pow10Tab", Rows.laid_internal_strconv_pow10Tab) ∈ laid) (i : Nat) (hi : i < 696) :
    W.cell? ⟨9, i * 2, none⟩ = some (.int .u64 (pmHi i)) ∧ W.cell? ⟨9, i * 2 + 1, none⟩ = some (.int .u64 (pmLo i)) := by
  obtain ⟨ps, hl, _⟩ := h
  obtain ⟨g, t, cs, fuel, p, hg, ht, hv, hd⟩ := laid_mem laid ps hl _ _ hm
  obtain rfl := Option.some.inj (g_tab.symm.trans hg)
  obtain rfl := Option.some.inj ((show (Tryz.prog.globals[9]?).map (·.type) = some 164 by kernel_rfl).symm.trans ht)
  obtain ⟨xs, m, _, hx, hlen, hn, hel⟩ := DataW.trod_array Tryz.underlying164 hd
  have c2 : Tryz.prog.cellsOf 163 = 2 := by kernel_rfl
  have c1 : Tryz.prog.cellsOf 46 = 1 := by kernel_rfl
  have e := hel i hi
  rw [c2, List.getElem?_eq_getElem (by omega)] at e
  obtain ⟨y0, y1, n, hxy, hl2, h0, h1⟩ := trod_struct2 Tryz.underlying163 e
  simp only [c1, List.drop_zero] at h0 h1
  obtain ⟨z0, e0, f0, _⟩ := DataW.trod_int Tryz.underlying46 h0
  obtain ⟨z1, e1, f1, _⟩ := DataW.trod_int Tryz.underlying46 h1
  have hdat : (xs.map (·.1)) = Pinned.pow10Rows.map fun x => (DataW.agg [.lit (.int .u64 x.1), .lit (.int .u64 x.2)] : DataW Unit) := by
    have := congrArg Prod.fst hx
    simp only [Rows.laid_internal_strconv_pow10Tab, Pinned.pow10Tab, DataW.agg.injEq] at this
    exact this.symm
  have hir : i < Pinned.pow10Rows.length := by rw [pow10Rows_length]; exact hi
  have hat := congrArg (·[i]?) hdat
  simp only [List.getElem?_map, List.getElem?_eq_getElem (show i < xs.length by omega), List.getElem?_eq_getElem hir, Option.map_some, Option.some.injEq] at hat
  have hfst := congrArg Prod.fst hxy
  simp only at hfst
  rw [hat, f0, f1] at hfst
  simp only [DataW.agg.injEq, List.cons.injEq, DataW.lit.injEq, Lit.int.injEq, true_and, and_true] at hfst
  have g0 : cs[i * 2]? = some (.int .u64 z0) := by
    have := congrArg (·[0]?) e0
    simpa [List.getElem?_take, List.getElem?_drop] using this
  have g1 : cs[i * 2 + 1]? = some (.int .u64 z1) := by
    have := congrArg (·[0]?) e1
    simpa [List.getElem?_take, List.getElem?_drop] using this
  refine ⟨?_, ?_⟩
  · rw [World.var?_cell hg hv (i * 2), g0, ← hfst.1]
    unfold pmHi
    rw [List.getD, List.getElem?_eq_getElem hir]
    rfl
  · rw [World.var?_cell hg hv (i * 2 + 1), g1, ← hfst.2]
    unfold pmLo
    rw [List.getD, List.getElem?_eq_getElem hir]
    rfl

theorem cheatRows_length : Pinned.cheatRows.length = 61 := by kernel_rfl
theorem cheat_cells {W : World} {laid : List (String × DataW Unit)} (h : laidMet Tryz.prog laid W) (hm : ("internal/strconv.leftcheats", Rows.laid_internal_strconv_leftcheats) ∈ laid) :
    ∃ cb co, W.cell? ⟨10, 0, none⟩ = some (.slice (some ⟨cb, co, none⟩) 61 61) ∧ ∀ i, i < 61 → W.cell? ⟨cb, co + i * 2, none⟩ = some (.int .i64 (cheatD i)) ∧ W.cell? ⟨cb, co + i * 2 + 1, none⟩ = some (.string ⟨(cheatC i).toArray⟩) := by
  obtain ⟨ps, hl, _⟩ := h
  obtain ⟨g, t, cs, fuel, p, hg, ht, hv, hd⟩ := laid_mem laid ps hl _ _ hm
  obtain rfl := Option.some.inj (g_cheat.symm.trans hg)
  obtain rfl := Option.some.inj ((show (Tryz.prog.globals[10]?).map (·.type) = some 175 by kernel_rfl).symm.trans ht)
  rcases open_slice_pairs Tryz.underlying175 Tryz.underlying174 (by kernel_rfl) rfl rfl (by kernel_rfl) (by kernel_rfl) hd with ⟨_, hx⟩ | ⟨a, len, cap, m, n, V0, V1, D0, D1, P0, P1, hcs, _, hlc, _, hm2, hx, hel⟩
  · have := congrArg Prod.fst hx
    simp only [Rows.laid_internal_strconv_leftcheats, Pinned.leftcheats] at this
    cases this
  · simp only [if_true] at hm2
    subst hm2
    have hfst := congrArg Prod.fst hx
    simp only [Rows.laid_internal_strconv_leftcheats, Pinned.leftcheats, DataW.slice.injEq] at hfst
    obtain ⟨hd1, hd2⟩ := hfst
    have hlen : len = 61 := by
      have := congrArg List.length hd1
      rw [List.length_map, List.length_map, List.length_range, cheatRows_length] at this
      exact this.symm
    have hcap : m = 61 := by
      have := congrArg List.length hd2
      rw [List.length_map, List.length_range] at this
      simp only [List.length_nil] at this
      omega
    subst hlen hcap
    obtain ⟨cb, co, sp⟩ := a
    have h0 := (hel 0 (by omega)).1
    have hsp : sp = none := by
      cases sp with
      | none => rfl
      | some s =>
        simp [World.cell?, Addr.add] at h0
        split at h0 <;> cases h0
    subst hsp
    refine ⟨cb, co, ?_, fun i hi => ?_⟩
    · rw [World.var?_cell hg hv 0, Array.eq_one_of_toList hcs]
      rfl
    · obtain ⟨e0, e1, t0, t1⟩ := hel i hi
      have k0 : (⟨cb, co, none⟩ : Addr).add (i * 2) = ⟨cb, co + i * 2, none⟩ := by simp [Addr.add]
      have k1 : (⟨cb, co, none⟩ : Addr).add (i * 2 + 1) = ⟨cb, co + i * 2 + 1, none⟩ := by simp [Addr.add]; omega
      rw [k0] at e0
      rw [k1] at e1
      obtain ⟨z0, hz0, f0, _⟩ := DataW.trod_int Tryz.underlying3 t0
      obtain ⟨s1, hs1, f1⟩ := trod_str Tryz.underlying9 t1
      have hir : i < Pinned.cheatRows.length := by rw [cheatRows_length]; exact hi
      have hat := congrArg (·[i]?) hd1
      simp only [List.getElem?_map, List.getElem?_range hi, List.getElem?_eq_getElem hir, Option.map_some, Option.some.injEq] at hat
      have ff0 : D0 i = .lit (.int .i64 z0) := congrArg Prod.fst f0
      have ff1 : D1 i = .lit (.string s1.data.toList) := f1
      rw [ff0, ff1] at hat
      simp only [DataW.agg.injEq, List.cons.injEq, DataW.lit.injEq, Lit.int.injEq, Lit.string.injEq, true_and, and_true] at hat
      refine ⟨?_, ?_⟩
      · rw [e0]
        have : V0 i = .int .i64 z0 := by simpa using hz0
        rw [this, ← hat.1]
        unfold cheatD
        rw [List.getD, List.getElem?_eq_getElem hir]
        rfl
      · rw [e1, hs1]
        unfold cheatC
        rw [List.getD, List.getElem?_eq_getElem hir]
        have : s1 = ⟨(Pinned.cheatRows[i]).2.toArray⟩ := by
          rw [hat.2]
        rw [this]
        rfl

/-- WHAT THE ROW's LIST GIVES. -/
theorem tabs_of_laid {W : World} {laid : List (String × DataW Unit)} (h : laidMet Tryz.prog laid W) (m1 : ("internal/strconv.optimize", Rows.laid_internal_strconv_optimize) ∈ laid) (m2 : ("internal/strconv.uint64pow10", Rows.laid_internal_strconv_uint64pow10) ∈ laid)
    (m3 : ("internal/strconv.pow10Tab", Rows.laid_internal_strconv_pow10Tab) ∈ laid) (m4 : ("internal/strconv.leftcheats", Rows.laid_internal_strconv_leftcheats) ∈ laid) : ∃ cb co, Tabs cb co W := by
  obtain ⟨cb, co, hc, hr⟩ := cheat_cells h m4
  exact ⟨cb, co, { opt := opt_cell h m1, p10 := fun i hi => p10_cell h m2 i hi, hi := fun i hi => (tab_cells h m3 i hi).1, lo := fun i hi => (tab_cells h m3 i hi).2, ch := hc, delta := fun i hi => (hr i hi).1, cut := fun i hi => (hr i hi).2 }⟩

theorem g_powt : Tryz.prog.globalNamed "internal/strconv.powtab" = some 7 := by kernel_rfl
theorem g_ten : Tryz.prog.globalNamed "internal/strconv.float64pow10" = some 8 := by kernel_rfl
theorem g_info : Tryz.prog.globalNamed "internal/strconv.float64info" = some 5 := by kernel_rfl
theorem g_syn : Tryz.prog.globalNamed "strconv.ErrSyntax" = some 1 := by kernel_rfl
theorem g_rng : Tryz.prog.globalNamed "strconv.ErrRange" = some 2 := by kernel_rfl

/-- A row of one-cell elements, as the list says it. -/
theorem laid_row {W : World} {fuel : Nat} {t e : TypeId} {cs : Array Value} {d : DataW Unit} {p : List MemPlace} (ht : Tryz.prog.underlying t = some (.slice e)) (hc : Tryz.prog.cellsOf e = 1) (L : List (DataW Unit)) (hd : d = .slice L [])
    (hL : 0 < L.length) (h : DataW.trod (fun _ => ()) Tryz.prog W 0 (fun _ => true) false fuel t cs.toList = some (d, p)) :
    ∃ b o, cs.toList = [.slice (some ⟨b, o, none⟩) L.length L.length] ∧ ∀ i, i < L.length → ∃ V q fu, W.cell? ⟨b, o + i, none⟩ = some V ∧ DataW.trod (fun _ => ()) Tryz.prog W 0 (fun _ => true) false fu e [V] = some (L.getD i .nil, q) := by
  subst hd
  rcases open_slice1 ht hc h with ⟨_, hx⟩ | ⟨a, len, cap, m, n, V, D, Pl, hcs, _, hlc, _, hmm, hx, hel⟩
  · cases hx
  · simp only [if_true] at hmm
    subst hmm
    have hf := congrArg Prod.fst hx
    simp only [DataW.slice.injEq] at hf
    obtain ⟨h1, h2⟩ := hf
    have hlen : L.length = len := by rw [h1]; simp
    have hcap : m - len = 0 := by
      have := congrArg List.length h2
      simp at this
      omega
    have hml : m = len := by omega
    subst hml
    obtain ⟨b, o, sp⟩ := a
    have h0 := (hel 0 (by omega)).1
    have hsp : sp = none := by
      cases sp with
      | none => rfl
      | some s =>
        simp [World.cell?, Addr.add] at h0
        split at h0 <;> cases h0
    subst hsp
    refine ⟨b, o, by rw [hlen]; exact hcs, fun i hi => ?_⟩
    obtain ⟨e1, e2⟩ := hel i (by omega)
    have k0 : (⟨b, o, none⟩ : Addr).add i = ⟨b, o + i, none⟩ := by
      unfold Addr.add
      split
      · rename_i h; rw [h, Nat.add_zero]
      · rfl
    rw [k0] at e1
    have : L.getD i .nil = D i := by
      rw [h1]
      simp [List.getD, show i < m by omega]
    exact ⟨V i, Pl i, n, e1, by rw [e2, this]⟩

theorem pow_cells {W : World} {laid : List (String × DataW Unit)} (h : laidMet Tryz.prog laid W) (hm : ("internal/strconv.powtab", Rows.laid_internal_strconv_powtab) ∈ laid) :
    ∃ b o, W.cell? ⟨7, 0, none⟩ = some (.slice (some ⟨b, o, none⟩) 9 9) ∧ ∀ i, i < 9 → W.cell? ⟨b, o + i, none⟩ = some (.int .i64 ((powT i : Nat) : Int)) := by
  obtain ⟨ps, hl, _⟩ := h
  obtain ⟨g, t, cs, fuel, p, hg, ht, hv, hd⟩ := laid_mem laid ps hl _ _ hm
  obtain rfl := Option.some.inj (g_powt.symm.trans hg)
  obtain rfl := Option.some.inj ((show (Tryz.prog.globals[7]?).map (·.type) = some 26 by kernel_rfl).symm.trans ht)
  obtain ⟨b, o, hcs, hel⟩ := laid_row Tryz.underlying26 (by kernel_rfl) ([1, 3, 6, 9, 13, 16, 19, 23, 26].map fun z : Int => .lit (.int .i64 z)) rfl (by decide) hd
  refine ⟨b, o, by rw [World.var?_cell hg hv 0, Array.eq_one_of_toList hcs]; rfl, fun i hi => ?_⟩
  obtain ⟨V, q, fu, e1, e2⟩ := hel i hi
  obtain ⟨z, hz, fz, _⟩ := DataW.trod_int Tryz.underlying3 e2
  have hV : V = .int .i64 z := by simpa using hz
  have hz2 := congrArg Prod.fst fz
  have hp : ∀ i : Fin 9, (([1, 3, 6, 9, 13, 16, 19, 23, 26].map fun z : Int => (DataW.lit (.int .i64 z) : DataW Unit)).getD i.val .nil) = .lit (.int .i64 ((powT i.val : Nat) : Int)) := by
    intro i
    rcases i with ⟨i, hi⟩
    rcases (show i = 0 ∨ i = 1 ∨ i = 2 ∨ i = 3 ∨ i = 4 ∨ i = 5 ∨ i = 6 ∨ i = 7 ∨ i = 8 by omega) with rfl | rfl | rfl | rfl | rfl | rfl | rfl | rfl | rfl <;> rfl
  simp only at hz2
  rw [hp ⟨i, hi⟩] at hz2
  simp only [DataW.lit.injEq, Lit.int.injEq, true_and] at hz2
  rw [e1, hV, hz2]

theorem ten_cells {W : World} {laid : List (String × DataW Unit)} (h : laidMet Tryz.prog laid W) (hm : ("internal/strconv.float64pow10", Rows.laid_internal_strconv_float64pow10) ∈ laid) :
    ∃ b o, W.cell? ⟨8, 0, none⟩ = some (.slice (some ⟨b, o, none⟩) 23 23) ∧ ∀ i, i < 23 → W.cell? ⟨b, o + i, none⟩ = some (.float .f64 (tenF i)) := by
  obtain ⟨ps, hl, _⟩ := h
  obtain ⟨g, t, cs, fuel, p, hg, ht, hv, hd⟩ := laid_mem laid ps hl _ _ hm
  obtain rfl := Option.some.inj (g_ten.symm.trans hg)
  obtain rfl := Option.some.inj ((show (Tryz.prog.globals[8]?).map (·.type) = some 27 by kernel_rfl).symm.trans ht)
  obtain ⟨b, o, hcs, hel⟩ := laid_row Tryz.underlying27 (by kernel_rfl) ((List.range 23).map fun i => .lit (.float .f64 (tenF i))) rfl (by decide) hd
  refine ⟨b, o, by rw [World.var?_cell hg hv 0, Array.eq_one_of_toList hcs]; rfl, fun i hi => ?_⟩
  obtain ⟨V, q, fu, e1, e2⟩ := hel i (by simpa using hi)
  obtain ⟨z, hz, _⟩ := trod_float Tryz.underlying30 e2
  subst hz
  have e3 := congrArg (Option.map Prod.fst) e2
  cases fu with
  | zero => simp [DataW.trod] at e2
  | succ fu =>
    unfold DataW.trod at e3
    rw [Tryz.underlying30] at e3
    simp [List.getD, hi] at e3
    rw [e1, e3.2]

theorem info_cells {W : World} {laid : List (String × DataW Unit)} (h : laidMet Tryz.prog laid W) (hm : ("internal/strconv.float64info", Rows.laid_internal_strconv_float64info) ∈ laid) :
    W.cell? ⟨5, 0, none⟩ = some (.int .u64 52) ∧ W.cell? ⟨5, 1, none⟩ = some (.int .u64 11) ∧ W.cell? ⟨5, 2, none⟩ = some (.int .i64 (-1023)) := by
  obtain ⟨ps, hl, _⟩ := h
  obtain ⟨g, t, cs, fuel, p, hg, ht, hv, hd⟩ := laid_mem laid ps hl _ _ hm
  obtain rfl := Option.some.inj (g_info.symm.trans hg)
  obtain rfl := Option.some.inj ((show (Tryz.prog.globals[5]?).map (·.type) = some 111 by kernel_rfl).symm.trans ht)
  obtain ⟨y0, y1, y2, n, hx, hlen, h0, h1, h2⟩ := trod_struct3 Tryz.underlying111 hd
  have cu : Tryz.prog.cellsOf 109 = 1 := by kernel_rfl
  have ci : Tryz.prog.cellsOf 3 = 1 := by kernel_rfl
  simp only [cu, ci, List.drop_zero] at h0 h1 h2
  obtain ⟨z0, e0, f0, _⟩ := DataW.trod_int Tryz.underlying109 h0
  obtain ⟨z1, e1, f1, _⟩ := DataW.trod_int Tryz.underlying109 h1
  obtain ⟨z2, e2, f2, _⟩ := DataW.trod_int Tryz.underlying3 h2
  have hfst := congrArg Prod.fst hx
  simp only [Rows.laid_internal_strconv_float64info, f0, f1, f2, DataW.agg.injEq, List.cons.injEq, DataW.lit.injEq, Lit.int.injEq, true_and, and_true] at hfst
  obtain ⟨rfl, rfl, rfl⟩ := hfst
  have g0 := congrArg (·[0]?) e0
  have g1 := congrArg (·[0]?) e1
  have g2 := congrArg (·[0]?) e2
  simp [List.getElem?_drop] at g0 g1 g2
  refine ⟨?_, ?_, ?_⟩
  · rw [World.var?_cell hg hv 0, ← Array.getElem?_toList]; simpa using g0
  · rw [World.var?_cell hg hv 1, ← Array.getElem?_toList]; simpa using g1
  · rw [World.var?_cell hg hv 2, ← Array.getElem?_toList]; simpa using g2

theorem trod_err {W : World} {fuel : Nat} {cs : Array Value} {n : String} {d : DataW Unit} {p : List MemPlace} (h : DataW.trod (fun _ => ()) Tryz.prog W 0 (fun _ => true) false fuel 41 cs.toList = some (.iface n d, p)) :
    ∃ te pe, cs = #[.iface te pe] := by
  cases fuel with
  | zero => simp [DataW.trod] at h
  | succ fu =>
    obtain ⟨l⟩ := cs
    have hu := Tryz.underlying41
    obtain ⟨ms, hms⟩ : ∃ ms, Tryz.prog.underlying 41 = some (.interface ms) := ⟨_, hu⟩
    clear hu
    unfold DataW.trod at h
    rw [hms] at h
    rcases l with _ | ⟨v, _ | ⟨v2, l⟩⟩
    · simp at h
    · cases v <;> simp at h
      exact ⟨_, _, rfl⟩
    · cases v <;> simp at h

theorem syn_cell {W : World} {laid : List (String × DataW Unit)} (h : laidMet Tryz.prog laid W) (hm : ("strconv.ErrSyntax", Rows.laid_strconv_ErrSyntax) ∈ laid) : ∃ te pe, W.cell? ⟨1, 0, none⟩ = some (.iface te pe) := by
  obtain ⟨ps, hl, _⟩ := h
  obtain ⟨g, t, cs, fuel, p, hg, ht, hv, hd⟩ := laid_mem laid ps hl _ _ hm
  obtain rfl := Option.some.inj (g_syn.symm.trans hg)
  obtain rfl := Option.some.inj ((show (Tryz.prog.globals[1]?).map (·.type) = some 41 by kernel_rfl).symm.trans ht)
  obtain ⟨te, pe, rfl⟩ := trod_err hd
  exact ⟨te, pe, by rw [World.var?_cell hg hv 0]; rfl⟩
theorem rng_cell {W : World} {laid : List (String × DataW Unit)} (h : laidMet Tryz.prog laid W) (hm : ("strconv.ErrRange", Rows.laid_strconv_ErrRange) ∈ laid) : ∃ te pe, W.cell? ⟨2, 0, none⟩ = some (.iface te pe) := by
  obtain ⟨ps, hl, _⟩ := h
  obtain ⟨g, t, cs, fuel, p, hg, ht, hv, hd⟩ := laid_mem laid ps hl _ _ hm
  obtain rfl := Option.some.inj (g_rng.symm.trans hg)
  obtain rfl := Option.some.inj ((show (Tryz.prog.globals[2]?).map (·.type) = some 41 by kernel_rfl).symm.trans ht)
  obtain ⟨te, pe, rfl⟩ := trod_err hd
  exact ⟨te, pe, by rw [World.var?_cell hg hv 0]; rfl⟩

noncomputable abbrev laidL : List (String × DataW Unit) := Rows.fnTokensRow.laid
/-- WHAT THE ROW's LIST GIVES, all of it. -/
theorem tab2_of_laid {W : World} (h : laidMet Tryz.prog laidL W) : ∃ sp, Tab2 sp W := by
  obtain ⟨cb, co, T⟩ := tabs_of_laid h (by simp [laidL, Rows.fnTokensRow]) (by simp [laidL, Rows.fnTokensRow]) (by simp [laidL, Rows.fnTokensRow]) (by simp [laidL, Rows.fnTokensRow])
  obtain ⟨pb, po, p1, p2⟩ := pow_cells h (by simp [laidL, Rows.fnTokensRow])
  obtain ⟨fb, fo, f1, f2⟩ := ten_cells h (by simp [laidL, Rows.fnTokensRow])
  obtain ⟨i0, i1, i2⟩ := info_cells h (by simp [laidL, Rows.fnTokensRow])
  exact ⟨⟨cb, co, pb, po, fb, fo⟩, ⟨T, p1, p2, f1, f2, i0, i1, i2, syn_cell h (by simp [laidL, Rows.fnTokensRow]), rng_cell h (by simp [laidL, Rows.fnTokensRow])⟩⟩

theorem own : ownKnob Tryz.prog.godebug = none := by kernel_rfl
theorem laidOut : laidOutB Tryz.prog = true := by kernel_rfl
theorem laid_plain : (laidL.all fun x => x.2.handleName?.isNone) = true := by kernel_rfl
set_option maxRecDepth 100000 in
theorem wit_fits (os : Os) : (World.holding Tryz.prog os ⟨#[], #[], []⟩).layFits Tryz.prog laidL [] = true := by kernel_rfl
set_option maxRecDepth 100000 in
theorem wit_ifaces (os : Os) : (World.holding Tryz.prog os ⟨#[], #[], []⟩).layIfaces Tryz.prog laidL (World.laidAll Tryz.prog os laidL) = true := by kernel_rfl
theorem wit_met (os : Os) (args : Array Value) : laidMetH Tryz.prog laidL ((World.laidAll Tryz.prog os laidL).forCall (fun _ _ => 0) ⟨#[], args, []⟩).memory := by
  rw [MakeChecks.laidMetH_plain _ _ _ laid_plain]
  exact laidMet_laidAll args (wit_fits os) (wit_ifaces os)
set_option maxRecDepth 100000 in
theorem wit_shaped (os : Os) (args : Array Value) : ((World.laidAll Tryz.prog os laidL).forCall (fun _ _ => 0) ⟨#[], args, []⟩).Shaped Tryz.prog :=
  World.shaped_of_ZipB (by kernel_rfl) (by kernel_rfl)
end Go.Proofs.YtodihpaabkplhaaGreatDoor

namespace Go.Proofs.YtodihpaabkplhaaGreatDoor.fnTokens
open Go.ChangeShapes Go.WideShapes Go.ChangeAt Go.RowKit Go.Deep

set_option maxRecDepth 100000 in
set_option maxHeartbeats 1600000 in
/-- A text of which the law does not speak. -/
theorem idle (S : ByteArray) (w : World) (hz : S.size ≤ maxLen) (hno : ¬ (S.size ≤ 2147483647 ∧ Asc S)) :
    Calls Tryz.prog 3 #[.string S] w fun e w' => e = .returned (.bool true) ∧ Below w.heap.size w w' := by
  unfold maxLen at hz
  by_cases hb : 2147483647 < S.size
  · have hb' : (2147483647 : Int) < (S.size : Int) := by omega
    clear hno hb
    go_enter Tryz.func3, Tryz.ntmps3
    conv => arg 4; dsimp only
    go_wp2_with fail
    go_ret
    exact ⟨rfl, Below.refl _ _⟩
  · have hb' : ¬ (2147483647 : Int) < (S.size : Int) := by omega
    have hxa := xAsked_any S w (by omega)
    have hna : ¬ Asc S := fun h => hno ⟨by omega, h⟩
    have HXA := Lib.hid hxa
    have HNA := Lib.hid hna
    clear hxa hna hno hb
    go_enter Tryz.func3, Tryz.ntmps3
    conv => arg 4; dsimp only
    go_wp2_with fail
    refine HXA.out.mono ?_
    rintro en w1 ⟨⟨b, rfl, hb⟩, rfl⟩
    cases b with
    | true => exact absurd (hb rfl) HNA.out
    | false =>
      go_wp2_with fail
      go_ret
      exact ⟨rfl, Below.refl _ _⟩

theorem walk (S : ByteArray) (sp : Spots) (w : World) (hT : Tab2 sp w) (hz : S.size ≤ maxLen) :
    Calls Tryz.prog 3 #[.string S] w fun e w' => e = .returned (.bool true) ∧ Below w.heap.size w w' := by
  by_cases h : S.size ≤ 2147483647 ∧ Asc S
  · exact fnTokens_main S sp w h.2 hT h.1
  · exact idle S w hz h

set_option maxRecDepth 100000 in
theorem lifted (os : Os) (started : os.Started) (H : Type) (enc : TypeId × Value → H) :
    ReturnsInHanded {} Tryz.checked os 3 .any (fun w args => (Rows.fnTokensSpec.pre enc Tryz.prog Tryz.f3 [] false w args ∧ laidMetH Tryz.prog laidL w) ∧ sizedMet enc Tryz.prog Tryz.f3 (OpenSpec.ofChange Rows.fnTokensSpec) false w args)
      (Rows.fnTokensSpec.post enc Tryz.prog Tryz.f3 false true false false) := by
  refine returnsInHanded_of_change_and (C := Tryz.checked) (X := fun w _ => laidMetH Tryz.prog laidL w) (fun _ _ _ hh h => h.of_heap hh) own started (by kernel_rfl) Tryz.func3
    (ChangeSpec.witness_shaped (enc := enc) (C := Tryz.checked) (os := os) (X := fun w _ => laidMetH Tryz.prog laidL w) false (World.laidAll Tryz.prog os laidL) #[.string ⟨#[]⟩] 8 (World.laidAll_os _ _ _) (wit_shaped os _) (by kernel_rfl) (by kernel_rfl) (by kernel_rfl) (wit_met os _)) ?_
  intro W base args ds gs before hval0 hW _ _ hL _
  have hval : ∀ (j : Nat) t v, Tryz.f3.params[j]? = some t → args[j]? = some v → Value.okWide Tryz.prog W .any base t v := hval0
  have hW' := hW
  obtain ⟨p, q, hA0, hV, rfl, hfz, hnd⟩ := hW
  have hA : DataW.TrodAll enc Tryz.prog W 0 (fun _ => true) true Tryz.f3.params.toList args.toList ds p := hA0
  rw [Tryz.params3] at hA hval
  obtain ⟨v0, dd0, rfl, rfl, h0⟩ := trodAll_one hA
  obtain ⟨rfl, rfl⟩ := trodVars_none hV
  obtain ⟨S, rfl, rfl, rfl, hS⟩ := Go.ChangeMaps.open_string Tryz.underlying9 (hval 0 9 v0 rfl rfl) h0
  have hL2 : laidMet Tryz.prog laidL W := by rw [← MakeChecks.laidMetH_plain _ _ _ laid_plain]; exact hL
  obtain ⟨sp, T⟩ := tab2_of_laid hL2
  clear hA0 hval0
  simp only [List.append_nil] at hW'
  refine (walk S sp W T hS).mono fun e W' ⟨he, hB⟩ => ?_
  subst he
  exact ⟨_, rfl, [.lit (.string S.data.toList)], [], _, [], _, [], hW', trodAll_mk1 (shut_bool Tryz.underlying4 _), trodAll_mk1 (Go.ChangeMaps.shut_string Tryz.underlying9 hS), rfl, hB.frame _, fun h => by cases h⟩

theorem said : Rows.FnTokensSaid :=
  OpenClaim.holds_of_wide 3 Tryz.f3 rfl rfl rfl rfl rfl rfl rfl ⟨rfl, rfl, rfl, rfl, rfl⟩ rfl rfl rfl rfl rfl (by kernel_rfl) Tryz.func3 (by kernel_rfl)
    (of_decide_eq_true (by kernel_rfl)) (by unfold Func.isWrapper; first | (rw [if_pos (by decide +kernel)]; kernel_rfl) | (rw [if_neg (by decide +kernel)]; exact ⟨rfl, rfl⟩))
    (fun os started H enc _ => lifted os started H enc)

/-- No parameter wants a stand-in; the program's own looks are on: what the card asks. -/
theorem plain (f : FuncId) (fn : Func) (hf : Tryz.pinned.checked.prog.funcNamed "pub-orthodrome/laws.FnTokens" = some f) (hfn : Tryz.pinned.checked.prog.funcs[f]? = some fn) :
    true = Tryz.pinned.checked.prog.looks [] ∧ ∀ (j : Nat) t, fn.params[j]? = some t → Tryz.pinned.checked.prog.wantsStandIn t = false := by
  obtain rfl : f = 3 := Option.some.inj ((show Tryz.prog.funcNamed "pub-orthodrome/laws.FnTokens" = some 3 by kernel_rfl).symm.trans hf) |>.symm
  obtain rfl : fn = Tryz.f3 := (Option.some.inj (Tryz.func3.symm.trans hfn)).symm
  refine ⟨by kernel_rfl, fun j t ht => ?_⟩
  rw [Tryz.params3] at ht
  have hm : t ∈ [9] := by simpa using Array.mem_of_getElem? ht
  have hall : ([9].all fun u => !Tryz.prog.wantsStandIn u) = true := by kernel_rfl
  exact (show Tryz.prog.wantsStandIn t = false by simpa using List.all_eq_true.1 hall t hm)

/-- THE CARD. -/
theorem card : Rows.FnTokensCardSaid :=
  Claim7.holds_tied_plain_at .later [] _ _ _ _ said (fun _ h => by cases h) (by kernel_rfl) (fun _ h => by cases h) fnTokens_row_tie rfl ⟨rfl, rfl⟩ (by kernel_rfl) rfl plain (by kernel_rfl)
#print axioms card
end Go.Proofs.YtodihpaabkplhaaGreatDoor.fnTokens
