/- spec.kindName, spec.named. -/
import Derived.Test.YtodihpaabkplhaaGreatDoorLxl
import Derived.Laws.ResultCell
import Derived.Laws.IdiomStrings
namespace Go.Proofs.YtodihpaabkplhaaGreatDoor
open Go.RowKit

set_option maxHeartbeats 1000000 in
theorem kindName_any (k : Nat) (w : World) (h1 : 1 ≤ k) (h7 : k ≤ 7) :
    Calls Tryz.prog 18 #[.int .i64 k] w fun en w' => en = .returned (.string ⟨(baseN.getD (k - 1) []).toArray⟩) ∧ w' = w := by
  rcases (show k = 1 ∨ k = 2 ∨ k = 3 ∨ k = 4 ∨ k = 5 ∨ k = 6 ∨ k = 7 by omega) with rfl | rfl | rfl | rfl | rfl | rfl | rfl
  all_goals (
    go_enter Tryz.func18, Tryz.ntmps18
    go_wp2
    go_ret
    exact ⟨rfl, rfl⟩)

def wordC (d : Wd) : Array Value := #[.int .u8 d.sign, .int .i64 d.kind, .int .i64 d.lay, .bool d.empty, .float .f64 d.num]

theorem cat_name (k i : Nat) (t : ByteArray) (ht : t.data.toList = tagN.getD i []) : ((⟨(baseN.getD (k - 1) []).toArray⟩ : ByteArray) ++ t).toList = nameN k i := by
  rw [ByteArray.toList_eq, ByteArray.data_append, Array.toList_append, ht]
  rfl
theorem base_len (k : Nat) : (⟨(baseN.getD (k - 1) []).toArray⟩ : ByteArray).size ≤ 18 := by
  rw [size_list]
  rcases Nat.lt_or_ge (k - 1) 7 with h | h
  · have : ∀ m : Fin 7, (baseN.getD m.val []).length ≤ 18 := by decide
    exact this ⟨k - 1, h⟩
  · rw [List.getD_eq_getElem?_getD, List.getElem?_eq_none (by simpa [baseN] using h)]
    simp

theorem results_cell_tmp_row {P : Program} {fn : Func} {p u : Tmp} {ty : TypeId} (h : fn.results = #[.cell p ty, .tmp u]) (tmps : Array Value) (w : World) (g : Nat) (t : TypeId) (cs : Array Value) (fr : Nat × Nat) (d : TypeDesc)
    (hp : tmps.getD p undef = .pointer (some ⟨g, 0, none⟩)) (hg : w.heap[g]? = some (.cells cs t fr))
    (hu : P.underlying ty = some d) (hd : (match d with | .struct _ | .array _ _ => true | _ => false) = true) (hi : (P.info? ty).map (·.size) = some cs.size) :
    (results fn tmps).run P w = .ok (.tuple #[.agg cs, tmps.getD u undef]) w := by
  rw [results_cell_tmp h, hp]
  simp [asAddr, run_loadVar_row w g t ty cs fr d hg hu hd hi, Result.andThen]
theorem set5 {w : World} {g : Nat} {T : TypeId} {c0 c1 c2 c3 c4 : Value} (v0 v1 v2 v3 v4 : Value) (h : w.heap[g]? = some (.cells #[c0, c1, c2, c3, c4] T (0, 0))) :
    (((((w.setCell ⟨g, 0, none⟩ v0).setCell ⟨g, 1, none⟩ v1).setCell ⟨g, 2, none⟩ v2).setCell ⟨g, 3, none⟩ v3).setCell ⟨g, 4, none⟩ v4).heap[g]? = some (.cells #[v0, v1, v2, v3, v4] T (0, 0)) := by
  simp [World.setCell, Array.getElem?_modify, h]
theorem below5 {w w' : World} {g : Nat} (v0 v1 v2 v3 v4 : Value) (h : Below g w w') :
    Below g w (((((w'.setCell ⟨g, 0, none⟩ v0).setCell ⟨g, 1, none⟩ v1).setCell ⟨g, 2, none⟩ v2).setCell ⟨g, 3, none⟩ v3).setCell ⟨g, 4, none⟩ v4) :=
  ((((h.setCell (p := ⟨g, 0, none⟩) (Nat.le_refl _) _).setCell (p := ⟨g, 1, none⟩) (Nat.le_refl _) _).setCell (p := ⟨g, 2, none⟩) (Nat.le_refl _) _).setCell (p := ⟨g, 3, none⟩) (Nat.le_refl _) _).setCell (p := ⟨g, 4, none⟩) (Nat.le_refl _) _
theorem info_word : (Tryz.prog.info? 32).map (·.size) = some 5 := by kernel_rfl

def MEnd (l : List UInt8) (w : World) (en : Ending) (w' : World) : Prop :=
  (∀ d, named l = some d → en = .returned (.tuple #[.agg (wordC d), .bool true])) ∧
  (named l = none → en = .returned (.tuple #[.agg (wordC ⟨0, 0, 0, false, 0⟩), .bool false])) ∧ Below w.heap.size w w'

set_option maxRecDepth 100000 in
set_option maxHeartbeats 2000000 in
theorem named_any (l : List UInt8) (w : World) (hl : l.length ≤ 3000) :
    Calls Tryz.prog 13 #[.string ⟨l.toArray⟩] w (MEnd l w) := by
  obtain ⟨g, hg⟩ : ∃ g, w.heap.size = g := ⟨_, rfl⟩
  by_cases hE : l = emptyN
  · subst hE
    go_enter Tryz.func13, Tryz.ntmps13
    go_wp2_with fail
    have hfin : (w.alloc (.cells #[.int .u8 0, .int .i64 0, .int .i64 0, .bool true, .float .f64 0] 32)).heap[g]? = some (.cells #[.int .u8 0, .int .i64 0, .int .i64 0, .bool true, .float .f64 0] 32 (0, 0)) := by rw [← hg]; exact heap_new w _
    have hbl : Below g w (w.alloc (.cells #[.int .u8 0, .int .i64 0, .int .i64 0, .bool true, .float .f64 0] 32)) := (Below.refl g w).alloc (by omega) _
    refine bodyPost_ret (results_cell_tmp_row rfl _ _ g _ _ _ _ rfl hfin Tryz.underlying32 rfl info_word) rfl ?_
    refine ⟨fun d hd => ?_, fun hd => ?_, by rw [hg]; exact hbl⟩
    · rw [named_empty] at hd
      cases hd
      rfl
    · rw [named_empty] at hd
      cases hd
  · have hEb : (l == [69, 77, 80, 84, 89]) = false := by rw [beq_eq_false_iff_ne]; exact hE
    go_enter Tryz.func13, Tryz.ntmps13
    have hg0 : (w.alloc (.cells (wordC ⟨0, 0, 0, false, 0⟩) 32)).heap[g]? = some (.cells (wordC ⟨0, 0, 0, false, 0⟩) 32 (0, 0)) := by rw [← hg]; exact heap_new w _
    have hB0 : Below g w (w.alloc (.cells (wordC ⟨0, 0, 0, false, 0⟩) 32)) := (Below.refl g w).alloc (by omega) _
    have HG0 := Lib.hid (And.intro hg0 hB0)
    have HE := Lib.hid hE
    clear hg0 hB0 hE
    go_wp2_with fail
    go_loopg [4] 7 (fun q kv wr => ∃ k : Nat, 1 ≤ k ∧ q + k = 8 ∧ kv = .int .i64 k ∧ (∀ k' m, 1 ≤ k' → k' < k → m ≤ 4 → m ≠ 1 → l ≠ nameN k' m) ∧ wr.heap[g]? = some (.cells (wordC ⟨0, 0, 0, false, 0⟩) 32 (0, 0)) ∧ Below g w wr)
    case atStart => exact ⟨1, by omega, by omega, rfl, fun k' m h1 h2 => by omega, HG0.out⟩
    case round =>
      clear HG0
      obtain ⟨k, hk1, hqk, rfl, hno, hgr, hbr⟩ := hrel
      have HNO := Lib.hid hno
      have HGR := Lib.hid hgr
      have HBR := Lib.hid hbr
      clear hno hgr hbr
      cases gk with
      | zero =>
        obtain rfl : k = 8 := by omega
        have hnone : named l = none := named_none HE.out (fun k m h1 h2 h3 h4 => HNO.out k m h1 (by omega) h3 h4)
        have HNN := Lib.hid hnone
        have g0 : wr.cell? ⟨g, 0, none⟩ = some (.int .u8 0) := by rw [Lib.cell_of_heap HGR.out]; rfl
        have g1 : wr.cell? ⟨g, 1, none⟩ = some (.int .i64 0) := by rw [Lib.cell_of_heap HGR.out]; rfl
        have g2 : wr.cell? ⟨g, 2, none⟩ = some (.int .i64 0) := by rw [Lib.cell_of_heap HGR.out]; rfl
        have g3 : wr.cell? ⟨g, 3, none⟩ = some (.bool false) := by rw [Lib.cell_of_heap HGR.out]; rfl
        have g4 : wr.cell? ⟨g, 4, none⟩ = some (.float .f64 0) := by rw [Lib.cell_of_heap HGR.out]; rfl
        have z0 : wr.frozen? ⟨g, 0, none⟩ = false := Lib.frozen_of_heap HGR.out 0
        have z1 : wr.frozen? ⟨g, 1, none⟩ = false := Lib.frozen_of_heap HGR.out 1
        have z2 : wr.frozen? ⟨g, 2, none⟩ = false := Lib.frozen_of_heap HGR.out 2
        have z3 : wr.frozen? ⟨g, 3, none⟩ = false := Lib.frozen_of_heap HGR.out 3
        have z4 : wr.frozen? ⟨g, 4, none⟩ = false := Lib.frozen_of_heap HGR.out 4
        clear hnone
        go_wp2_with fail
        have hfin := set5 (.int .u8 0) (.int .i64 0) (.int .i64 0) (.bool false) (.float .f64 0) HGR.out
        have hbl := below5 (.int .u8 0) (.int .i64 0) (.int .i64 0) (.bool false) (.float .f64 0) HBR.out
        refine bodyPost_ret (results_cell_tmp_row rfl _ _ g _ _ _ _ rfl hfin Tryz.underlying32 rfl info_word) rfl ?_
        refine ⟨fun d hd => ?_, fun hd => rfl, by rw [hg]; exact hbl⟩
        rw [HNN.out] at hd
        cases hd
      | succ q =>
        have hk7 : k ≤ 7 := by omega
        have hdk : decide ((k : Int) ≤ 7) = true := decide_eq_true (by omega)
        have hh0 : (wr.alloc (.cells #[.string ⟨#[]⟩, .string ⟨#[]⟩, .string ⟨#[90]⟩, .string ⟨#[77]⟩, .string ⟨#[90, 77]⟩] 9)).heap[wr.heap.size]? = some (.cells #[.string ⟨#[]⟩, .string ⟨#[]⟩, .string ⟨#[90]⟩, .string ⟨#[77]⟩, .string ⟨#[90, 77]⟩] 9 (0, 0)) := heap_new wr _
        have hg1 : (wr.alloc (.cells #[.string ⟨#[]⟩, .string ⟨#[]⟩, .string ⟨#[90]⟩, .string ⟨#[77]⟩, .string ⟨#[90, 77]⟩] 9)).heap[g]? = some (.cells (wordC ⟨0, 0, 0, false, 0⟩) 32 (0, 0)) := (Below.heap_alloc wr _ g (heap_lt HGR.out)).trans HGR.out
        have hb1 : Below g w (wr.alloc (.cells #[.string ⟨#[]⟩, .string ⟨#[]⟩, .string ⟨#[90]⟩, .string ⟨#[77]⟩, .string ⟨#[90, 77]⟩] 9)) := HBR.out.alloc (by have := heap_lt HGR.out; omega) _
        obtain ⟨h, hh⟩ : ∃ h, wr.heap.size = h := ⟨_, rfl⟩
        rw [hh] at hh0
        have H1 := Lib.hid (And.intro hh0 (And.intro hg1 hb1))
        clear hh0 hg1 hb1 HGR HBR
        go_wp2_with fail
        go_loopg [16] 5 (fun q2 iv ws => ∃ i : Nat, q2 + i = 5 ∧ iv = .int .i64 i ∧ (∀ m, m < i → m ≠ 1 → l ≠ nameN k m) ∧ ws.heap[h]? = some (.cells #[.string ⟨#[]⟩, .string ⟨#[]⟩, .string ⟨#[90]⟩, .string ⟨#[77]⟩, .string ⟨#[90, 77]⟩] 9 (0, 0)) ∧ ws.heap[g]? = some (.cells (wordC ⟨0, 0, 0, false, 0⟩) 32 (0, 0)) ∧ Below g w ws)
        case atStart => exact ⟨0, by omega, rfl, fun m h => by omega, H1.out⟩
        case round =>
          clear H1
          obtain ⟨i, hqi, rfl, hni, hhi, hgi, hbi⟩ := hrel
          have hkn := fun wx => kindName_any k wx hk1 hk7
          have hcn := cat_name k
          have hbs := base_len k
          obtain ⟨bk, hbk⟩ : ∃ bk : ByteArray, ⟨(baseN.getD (k - 1) []).toArray⟩ = bk := ⟨_, rfl⟩
          rw [hbk] at hkn hbs
          simp only [hbk] at hcn
          have HCN := Lib.hid hcn
          clear hcn hbk
          have HKN := Lib.hid hkn
          have HNI := Lib.hid hni
          have HGI := Lib.hid hgi
          have HBI := Lib.hid hbi
          have s0 : wr.cell? ⟨h, 0, none⟩ = some (.string ⟨#[]⟩) := by rw [Lib.cell_of_heap hhi]; rfl
          have s1 : wr.cell? ⟨h, 1, none⟩ = some (.string ⟨#[]⟩) := by rw [Lib.cell_of_heap hhi]; rfl
          have s2 : wr.cell? ⟨h, 2, none⟩ = some (.string ⟨#[90]⟩) := by rw [Lib.cell_of_heap hhi]; rfl
          have s3 : wr.cell? ⟨h, 3, none⟩ = some (.string ⟨#[77]⟩) := by rw [Lib.cell_of_heap hhi]; rfl
          have s4 : wr.cell? ⟨h, 4, none⟩ = some (.string ⟨#[90, 77]⟩) := by rw [Lib.cell_of_heap hhi]; rfl
          have HHI := Lib.hid hhi
          clear hkn hni hgi hbi hhi
          rcases (show i = 0 ∨ i = 1 ∨ i = 2 ∨ i = 3 ∨ i = 4 ∨ i = 5 by omega) with rfl | rfl | rfl | rfl | rfl | rfl
          · obtain rfl : gk = 4 + 1 := by omega
            by_cases hN : l = nameN k 0
            · have hcmp : (l == (bk ++ ⟨#[]⟩).toList) = true := by rw [HCN.out 0 ⟨#[]⟩ rfl, beq_iff_eq]; exact hN
              have hnm := named_pair ⟨k - 1, by omega⟩ ⟨0, by omega⟩ (show (0 : Nat) ≠ 1 by decide)
              have hnm2 : named l = some ⟨0, k, 0, false, 0⟩ := by
                rw [hN]
                have e : k - 1 + 1 = k := by omega
                simp only [e] at hnm
                exact hnm
              have HNM := Lib.hid hnm2
              have g0 : wr.cell? ⟨g, 0, none⟩ = some (.int .u8 0) := by rw [Lib.cell_of_heap HGI.out]; rfl
              have g1 : wr.cell? ⟨g, 1, none⟩ = some (.int .i64 0) := by rw [Lib.cell_of_heap HGI.out]; rfl
              have g2 : wr.cell? ⟨g, 2, none⟩ = some (.int .i64 0) := by rw [Lib.cell_of_heap HGI.out]; rfl
              have g3 : wr.cell? ⟨g, 3, none⟩ = some (.bool false) := by rw [Lib.cell_of_heap HGI.out]; rfl
              have g4 : wr.cell? ⟨g, 4, none⟩ = some (.float .f64 0) := by rw [Lib.cell_of_heap HGI.out]; rfl
              have z0 : wr.frozen? ⟨g, 0, none⟩ = false := Lib.frozen_of_heap HGI.out 0
              have z1 : wr.frozen? ⟨g, 1, none⟩ = false := Lib.frozen_of_heap HGI.out 1
              have z2 : wr.frozen? ⟨g, 2, none⟩ = false := Lib.frozen_of_heap HGI.out 2
              have z3 : wr.frozen? ⟨g, 3, none⟩ = false := Lib.frozen_of_heap HGI.out 3
              have z4 : wr.frozen? ⟨g, 4, none⟩ = false := Lib.frozen_of_heap HGI.out 4
              clear hN hnm hnm2
              go_wp2_with fail
              refine (HKN.out _).mono ?_
              rintro en w3 ⟨rfl, rfl⟩
              go_wp2_with fail
              have hfin := set5 (.int .u8 0) (.int .i64 k) (.int .i64 0) (.bool false) (.float .f64 0) HGI.out
              have hbl := below5 (.int .u8 0) (.int .i64 k) (.int .i64 0) (.bool false) (.float .f64 0) HBI.out
              refine bodyPost_ret (results_cell_tmp_row rfl _ _ g _ _ _ _ rfl hfin Tryz.underlying32 rfl info_word) rfl ?_
              refine ⟨fun d hd => ?_, fun hd => ?_, by rw [hg]; exact hbl⟩
              · rw [HNM.out] at hd
                cases hd
                rfl
              · rw [HNM.out] at hd
                cases hd
            · have hcmp : (l == (bk ++ ⟨#[]⟩).toList) = false := by rw [HCN.out 0 ⟨#[]⟩ rfl, beq_eq_false_iff_ne]; exact hN
              have HN := Lib.hid hN
              clear hN
              go_wp2_with fail
              refine (HKN.out _).mono ?_
              rintro en w3 ⟨rfl, rfl⟩
              go_wp2_with fail
              go_roundg 4
              case measure => omega
              case rel => exact ⟨1, by omega, rfl, fun m h1 h2 => by
                rcases (show m < 0 ∨ m = 0 by omega) with h3 | h3
                · exact HNI.out m h3 h2
                · rw [h3]; exact HN.out, HHI.out, HGI.out, HBI.out⟩
          · obtain rfl : gk = 3 + 1 := by omega
            go_wp2_with fail
            go_roundg 3
            case measure => omega
            case rel => exact ⟨2, by omega, rfl, fun m h1 h2 => HNI.out m (by omega) h2, HHI.out, HGI.out, HBI.out⟩
          · obtain rfl : gk = 2 + 1 := by omega
            by_cases hN : l = nameN k 2
            · have hcmp : (l == (bk ++ ⟨#[90]⟩).toList) = true := by rw [HCN.out 2 ⟨#[90]⟩ rfl, beq_iff_eq]; exact hN
              have hnm := named_pair ⟨k - 1, by omega⟩ ⟨2, by omega⟩ (show (2 : Nat) ≠ 1 by decide)
              have hnm2 : named l = some ⟨0, k, 2, false, 0⟩ := by
                rw [hN]
                have e : k - 1 + 1 = k := by omega
                simp only [e] at hnm
                exact hnm
              have HNM := Lib.hid hnm2
              have g0 : wr.cell? ⟨g, 0, none⟩ = some (.int .u8 0) := by rw [Lib.cell_of_heap HGI.out]; rfl
              have g1 : wr.cell? ⟨g, 1, none⟩ = some (.int .i64 0) := by rw [Lib.cell_of_heap HGI.out]; rfl
              have g2 : wr.cell? ⟨g, 2, none⟩ = some (.int .i64 0) := by rw [Lib.cell_of_heap HGI.out]; rfl
              have g3 : wr.cell? ⟨g, 3, none⟩ = some (.bool false) := by rw [Lib.cell_of_heap HGI.out]; rfl
              have g4 : wr.cell? ⟨g, 4, none⟩ = some (.float .f64 0) := by rw [Lib.cell_of_heap HGI.out]; rfl
              have z0 : wr.frozen? ⟨g, 0, none⟩ = false := Lib.frozen_of_heap HGI.out 0
              have z1 : wr.frozen? ⟨g, 1, none⟩ = false := Lib.frozen_of_heap HGI.out 1
              have z2 : wr.frozen? ⟨g, 2, none⟩ = false := Lib.frozen_of_heap HGI.out 2
              have z3 : wr.frozen? ⟨g, 3, none⟩ = false := Lib.frozen_of_heap HGI.out 3
              have z4 : wr.frozen? ⟨g, 4, none⟩ = false := Lib.frozen_of_heap HGI.out 4
              clear hN hnm hnm2
              go_wp2_with fail
              refine (HKN.out _).mono ?_
              rintro en w3 ⟨rfl, rfl⟩
              go_wp2_with fail
              have hfin := set5 (.int .u8 0) (.int .i64 k) (.int .i64 2) (.bool false) (.float .f64 0) HGI.out
              have hbl := below5 (.int .u8 0) (.int .i64 k) (.int .i64 2) (.bool false) (.float .f64 0) HBI.out
              refine bodyPost_ret (results_cell_tmp_row rfl _ _ g _ _ _ _ rfl hfin Tryz.underlying32 rfl info_word) rfl ?_
              refine ⟨fun d hd => ?_, fun hd => ?_, by rw [hg]; exact hbl⟩
              · rw [HNM.out] at hd
                cases hd
                rfl
              · rw [HNM.out] at hd
                cases hd
            · have hcmp : (l == (bk ++ ⟨#[90]⟩).toList) = false := by rw [HCN.out 2 ⟨#[90]⟩ rfl, beq_eq_false_iff_ne]; exact hN
              have HN := Lib.hid hN
              clear hN
              go_wp2_with fail
              refine (HKN.out _).mono ?_
              rintro en w3 ⟨rfl, rfl⟩
              go_wp2_with fail
              go_roundg 2
              case measure => omega
              case rel => exact ⟨3, by omega, rfl, fun m h1 h2 => by
                rcases (show m < 2 ∨ m = 2 by omega) with h3 | h3
                · exact HNI.out m h3 h2
                · rw [h3]; exact HN.out, HHI.out, HGI.out, HBI.out⟩
          · obtain rfl : gk = 1 + 1 := by omega
            by_cases hN : l = nameN k 3
            · have hcmp : (l == (bk ++ ⟨#[77]⟩).toList) = true := by rw [HCN.out 3 ⟨#[77]⟩ rfl, beq_iff_eq]; exact hN
              have hnm := named_pair ⟨k - 1, by omega⟩ ⟨3, by omega⟩ (show (3 : Nat) ≠ 1 by decide)
              have hnm2 : named l = some ⟨0, k, 3, false, 0⟩ := by
                rw [hN]
                have e : k - 1 + 1 = k := by omega
                simp only [e] at hnm
                exact hnm
              have HNM := Lib.hid hnm2
              have g0 : wr.cell? ⟨g, 0, none⟩ = some (.int .u8 0) := by rw [Lib.cell_of_heap HGI.out]; rfl
              have g1 : wr.cell? ⟨g, 1, none⟩ = some (.int .i64 0) := by rw [Lib.cell_of_heap HGI.out]; rfl
              have g2 : wr.cell? ⟨g, 2, none⟩ = some (.int .i64 0) := by rw [Lib.cell_of_heap HGI.out]; rfl
              have g3 : wr.cell? ⟨g, 3, none⟩ = some (.bool false) := by rw [Lib.cell_of_heap HGI.out]; rfl
              have g4 : wr.cell? ⟨g, 4, none⟩ = some (.float .f64 0) := by rw [Lib.cell_of_heap HGI.out]; rfl
              have z0 : wr.frozen? ⟨g, 0, none⟩ = false := Lib.frozen_of_heap HGI.out 0
              have z1 : wr.frozen? ⟨g, 1, none⟩ = false := Lib.frozen_of_heap HGI.out 1
              have z2 : wr.frozen? ⟨g, 2, none⟩ = false := Lib.frozen_of_heap HGI.out 2
              have z3 : wr.frozen? ⟨g, 3, none⟩ = false := Lib.frozen_of_heap HGI.out 3
              have z4 : wr.frozen? ⟨g, 4, none⟩ = false := Lib.frozen_of_heap HGI.out 4
              clear hN hnm hnm2
              go_wp2_with fail
              refine (HKN.out _).mono ?_
              rintro en w3 ⟨rfl, rfl⟩
              go_wp2_with fail
              have hfin := set5 (.int .u8 0) (.int .i64 k) (.int .i64 3) (.bool false) (.float .f64 0) HGI.out
              have hbl := below5 (.int .u8 0) (.int .i64 k) (.int .i64 3) (.bool false) (.float .f64 0) HBI.out
              refine bodyPost_ret (results_cell_tmp_row rfl _ _ g _ _ _ _ rfl hfin Tryz.underlying32 rfl info_word) rfl ?_
              refine ⟨fun d hd => ?_, fun hd => ?_, by rw [hg]; exact hbl⟩
              · rw [HNM.out] at hd
                cases hd
                rfl
              · rw [HNM.out] at hd
                cases hd
            · have hcmp : (l == (bk ++ ⟨#[77]⟩).toList) = false := by rw [HCN.out 3 ⟨#[77]⟩ rfl, beq_eq_false_iff_ne]; exact hN
              have HN := Lib.hid hN
              clear hN
              go_wp2_with fail
              refine (HKN.out _).mono ?_
              rintro en w3 ⟨rfl, rfl⟩
              go_wp2_with fail
              go_roundg 1
              case measure => omega
              case rel => exact ⟨4, by omega, rfl, fun m h1 h2 => by
                rcases (show m < 3 ∨ m = 3 by omega) with h3 | h3
                · exact HNI.out m h3 h2
                · rw [h3]; exact HN.out, HHI.out, HGI.out, HBI.out⟩
          · obtain rfl : gk = 0 + 1 := by omega
            by_cases hN : l = nameN k 4
            · have hcmp : (l == (bk ++ ⟨#[90, 77]⟩).toList) = true := by rw [HCN.out 4 ⟨#[90, 77]⟩ rfl, beq_iff_eq]; exact hN
              have hnm := named_pair ⟨k - 1, by omega⟩ ⟨4, by omega⟩ (show (4 : Nat) ≠ 1 by decide)
              have hnm2 : named l = some ⟨0, k, 4, false, 0⟩ := by
                rw [hN]
                have e : k - 1 + 1 = k := by omega
                simp only [e] at hnm
                exact hnm
              have HNM := Lib.hid hnm2
              have g0 : wr.cell? ⟨g, 0, none⟩ = some (.int .u8 0) := by rw [Lib.cell_of_heap HGI.out]; rfl
              have g1 : wr.cell? ⟨g, 1, none⟩ = some (.int .i64 0) := by rw [Lib.cell_of_heap HGI.out]; rfl
              have g2 : wr.cell? ⟨g, 2, none⟩ = some (.int .i64 0) := by rw [Lib.cell_of_heap HGI.out]; rfl
              have g3 : wr.cell? ⟨g, 3, none⟩ = some (.bool false) := by rw [Lib.cell_of_heap HGI.out]; rfl
              have g4 : wr.cell? ⟨g, 4, none⟩ = some (.float .f64 0) := by rw [Lib.cell_of_heap HGI.out]; rfl
              have z0 : wr.frozen? ⟨g, 0, none⟩ = false := Lib.frozen_of_heap HGI.out 0
              have z1 : wr.frozen? ⟨g, 1, none⟩ = false := Lib.frozen_of_heap HGI.out 1
              have z2 : wr.frozen? ⟨g, 2, none⟩ = false := Lib.frozen_of_heap HGI.out 2
              have z3 : wr.frozen? ⟨g, 3, none⟩ = false := Lib.frozen_of_heap HGI.out 3
              have z4 : wr.frozen? ⟨g, 4, none⟩ = false := Lib.frozen_of_heap HGI.out 4
              clear hN hnm hnm2
              go_wp2_with fail
              refine (HKN.out _).mono ?_
              rintro en w3 ⟨rfl, rfl⟩
              go_wp2_with fail
              have hfin := set5 (.int .u8 0) (.int .i64 k) (.int .i64 4) (.bool false) (.float .f64 0) HGI.out
              have hbl := below5 (.int .u8 0) (.int .i64 k) (.int .i64 4) (.bool false) (.float .f64 0) HBI.out
              refine bodyPost_ret (results_cell_tmp_row rfl _ _ g _ _ _ _ rfl hfin Tryz.underlying32 rfl info_word) rfl ?_
              refine ⟨fun d hd => ?_, fun hd => ?_, by rw [hg]; exact hbl⟩
              · rw [HNM.out] at hd
                cases hd
                rfl
              · rw [HNM.out] at hd
                cases hd
            · have hcmp : (l == (bk ++ ⟨#[90, 77]⟩).toList) = false := by rw [HCN.out 4 ⟨#[90, 77]⟩ rfl, beq_eq_false_iff_ne]; exact hN
              have HN := Lib.hid hN
              clear hN
              go_wp2_with fail
              refine (HKN.out _).mono ?_
              rintro en w3 ⟨rfl, rfl⟩
              go_wp2_with fail
              go_roundg 0
              case measure => omega
              case rel => exact ⟨5, by omega, rfl, fun m h1 h2 => by
                rcases (show m < 4 ∨ m = 4 by omega) with h3 | h3
                · exact HNI.out m h3 h2
                · rw [h3]; exact HN.out, HHI.out, HGI.out, HBI.out⟩
          · obtain rfl : gk = 0 := by omega
            have hnn : ∀ k' m, 1 ≤ k' → k' < k + 1 → m ≤ 4 → m ≠ 1 → l ≠ nameN k' m := fun k' m h1 h2 h3 h4 => by
              rcases (show k' < k ∨ k' = k by omega) with h5 | h5
              · exact HNO.out k' m h1 h5 h3 h4
              · rw [h5]; exact HNI.out m (by omega) h4
            have HNN := Lib.hid hnn
            clear hnn
            go_wp2_with fail
            go_roundg q
            case measure => omega
            case rel => exact ⟨k + 1, by omega, by omega, by go_num, HNN.out, HGI.out, HBI.out⟩
end Go.Proofs.YtodihpaabkplhaaGreatDoor
