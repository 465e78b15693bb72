/- Good data of places in a row: the small functions on a Geom without parts. -/
import Derived.Test.YtodihpaabkplhaaDoorApp
import Derived.Test.YtodihpaabkplhaaDoorTab
import Derived.Lib.Hide
import Derived.Tactics
import Derived.Tactics2
import Derived.Below
import Derived.Deep.LoopGhost
import Derived.Deep.DeepCutAuto
namespace Go.Proofs.YtodihpaabkplhaaDoor
open Go.RowKit

def geomV (k l s : Int) (f e es ks : Value) : Value := .agg #[.int .i64 k, .int .i64 l, .int .i64 s, f, e, es, ks]

theorem fStride_any (s : Int) (w : World) :
    Calls Tryd.prog 29 #[.int .i64 s] w fun e w' => e = .returned (.bool (decide (2 ≤ s) && decide (s ≤ 9))) ∧ w = w' := by
  by_cases h : 2 ≤ s
  · go_enter Tryd.func29, Tryd.ntmps29
    go_wp2
    go_ret
    exact ⟨by simp [h], rfl⟩
  · go_enter Tryd.func29, Tryd.ntmps29
    go_wp2
    go_ret
    exact ⟨retb (by rw [decide_eq_false (by omega)]; rfl), rfl⟩

def layI (s : Int) : Int := if s = 2 then 1 else if s = 3 then 2 else s
theorem fLayout_any (s : Int) (w : World) :
    Calls Tryd.prog 20 #[.int .i64 s] w fun e w' => e = .returned (.int .i64 (layI s)) ∧ w = w' := by
  unfold layI
  by_cases h : s = 2
  · subst h
    go_enter Tryd.func20, Tryd.ntmps20
    go_wp2
    go_ret
    exact ⟨rfl, rfl⟩
  · rw [if_neg h]
    have h2 : (s == 2) = false := beq_eq_false_iff_ne.2 h
    by_cases h3 : s = 3
    · subst h3
      go_enter Tryd.func20, Tryd.ntmps20
      go_wp2
      go_ret
      exact ⟨rfl, rfl⟩
    · rw [if_neg h3]
      have h4 : (s == 3) = false := beq_eq_false_iff_ne.2 h3
      clear h h3
      go_enter Tryd.func20, Tryd.ntmps20
      go_wp2
      go_ret
      exact ⟨rfl, rfl⟩

/-- spec.Stride. -/
def strideI (l : Int) : Int := if l < 1 then 0 else if l = 1 then 2 else if l = 2 ∨ l = 3 then 3 else l
theorem strideI_lay (s : Int) (h2 : 2 ≤ s) : strideI (layI s) = s := by
  unfold strideI layI
  by_cases h : s = 2
  · subst h; rfl
  · rw [if_neg h]
    by_cases h3 : s = 3
    · subst h3; rfl
    · rw [if_neg h3, if_neg (by omega), if_neg (by omega), if_neg (by omega)]
theorem stride_any (l : Int) (w : World) :
    Calls Tryd.prog 36 #[.int .i64 l] w fun e w' => e = .returned (.int .i64 (strideI l)) ∧ w = w' := by
  obtain ⟨R, hR⟩ : ∃ R, strideI l = R := ⟨_, rfl⟩
  rw [hR]
  unfold strideI at hR
  have HR := Lib.hid hR
  clear hR
  by_cases h0 : l < 1
  · go_enter Tryd.func36, Tryd.ntmps36
    go_wp2
    go_ret
    exact ⟨by rw [← HR.out, if_pos h0]; rfl, rfl⟩
  · by_cases h1 : l = 1
    · subst h1
      go_enter Tryd.func36, Tryd.ntmps36
      go_wp2
      go_ret
      exact ⟨by rw [← HR.out]; rfl, rfl⟩
    · have b1 : (l == 1) = false := beq_eq_false_iff_ne.2 h1
      by_cases h2 : l = 2
      · subst h2
        go_enter Tryd.func36, Tryd.ntmps36
        go_wp2
        go_ret
        exact ⟨by rw [← HR.out]; rfl, rfl⟩
      · have b2 : (l == 2) = false := beq_eq_false_iff_ne.2 h2
        by_cases h3 : l = 3
        · subst h3
          go_enter Tryd.func36, Tryd.ntmps36
          go_wp2
          go_ret
          exact ⟨by rw [← HR.out]; rfl, rfl⟩
        · have b3 : (l == 3) = false := beq_eq_false_iff_ne.2 h3
          have hl := HR.out
          rw [if_neg h0, if_neg h1, if_neg (by omega)] at hl
          have HL := Lib.hid hl
          clear hl HR h1 h2 h3
          go_enter Tryd.func36, Tryd.ntmps36
          go_wp2
          go_ret
          exact ⟨by rw [HL.out]; rfl, rfl⟩

/-- Whole numbers in a row in memory; rows of such. -/
def I64 (x : Int) : Prop := -9223372036854775808 ≤ x ∧ x ≤ 9223372036854775807
def IRow (w : World) (ao : Option Addr) (n : Nat) (e : Nat → Int) : Prop :=
  0 < n → ∃ blk off, ao = some ⟨blk, off, none⟩ ∧ ∀ i, i < n → w.cell? ⟨blk, off + i, none⟩ = some (.int .i64 (e i)) ∧ I64 (e i)
def LRow (w : World) (so : Option Addr) (sn : Nat) (m : Nat → Nat) (e : Nat → Nat → Int) : Prop :=
  0 < sn → ∃ blk off, so = some ⟨blk, off, none⟩ ∧ ∀ i, i < sn → ∃ ao cap, w.cell? ⟨blk, off + i, none⟩ = some (.slice ao (m i) cap) ∧ m i ≤ cap ∧ cap ≤ maxLen ∧ IRow w ao (m i) (e i)
theorem IRow.below {w w' : World} {ao : Option Addr} {n : Nat} {e : Nat → Int} (h : IRow w ao n e) (hb : Below w.heap.size w w') : IRow w' ao n e := fun hn => by
  obtain ⟨blk, off, h1, h2⟩ := h hn
  exact ⟨blk, off, h1, fun i hi => ⟨cell_kept hb (h2 i hi).1, (h2 i hi).2⟩⟩
theorem LRow.below {w w' : World} {so : Option Addr} {sn : Nat} {m : Nat → Nat} {e : Nat → Nat → Int} (h : LRow w so sn m e) (hb : Below w.heap.size w w') : LRow w' so sn m e := fun hn => by
  obtain ⟨blk, off, h1, h2⟩ := h hn
  refine ⟨blk, off, h1, fun i hi => ?_⟩
  obtain ⟨ao, cap, h3, h4, h5, h6⟩ := h2 i hi
  exact ⟨ao, cap, cell_kept hb h3, h4, h5, h6.below hb⟩
/-- How many ends there are. -/
def sumM (m : Nat → Nat) : Nat → Nat
  | 0 => 0
  | i + 1 => sumM m i + m i
/-- A struct in a block of its own. -/
def Box (w : World) (b : Nat) (T : TypeId) (cs : Array Value) : Prop := w.heap[b]? = some (.cells cs T (0, 0))
theorem Box.cell {w : World} {b : Nat} {T : TypeId} {cs : Array Value} (h : Box w b T cs) (i : Nat) : w.cell? ⟨b, i, none⟩ = cs[i]? := by
  rw [Lib.cell_of_heap h]
theorem Box.new (w : World) (T : TypeId) (cs : Array Value) : Box (w.alloc (.cells cs T)) w.heap.size T cs := by
  show (w.heap.push _)[w.heap.size]? = _; simp
theorem Box.below {w w' : World} {b : Nat} {T : TypeId} {cs : Array Value} (h : Box w b T cs) (hb : Below w.heap.size w w') : Box w' b T cs := (hb.block b (by
  rcases Nat.lt_or_ge b w.heap.size with h' | h'
  · exact h'
  · unfold Box at h; simp [Array.getElem?_eq_none h'] at h)).trans h

/-- A Geom's fields. -/
def geomC (k l s : Int) (f e es ks : Value) : Array Value := #[.int .i64 k, .int .i64 l, .int .i64 s, f, e, es, ks]
/-- The world once a Geom has been boxed. -/
theorem boxed (w : World) (k l s : Int) (f e es ks : Value) :
    Box (w.alloc (.cells #[.int .i64 k, .int .i64 l, .int .i64 s, f, e, es, ks] 33)) w.heap.size 33 (geomC k l s f e es ks) ∧ Below w.heap.size w (w.alloc (.cells #[.int .i64 k, .int .i64 l, .int .i64 s, f, e, es, ks] 33)) :=
  ⟨Box.new _ _ _, (Below.refl _ _).alloc (Nat.le_refl _) _⟩

set_option maxRecDepth 100000 in
set_option maxHeartbeats 1600000 in
theorem weight_flat {ka : Option Addr} {kc : Nat} (k l s most : Int) (fa ea sa : Option Addr) (fn fc en ec sn sc : Nat) (m : Nat → Nat) (e : Nat → Nat → Int) (w : World) (hs : LRow w sa sn m e) (hsz : 1 + fn + en + sumM m sn + sn ≤ 9223372036854775807) :
    Calls Tryd.prog 50 #[geomV k l s (.slice fa fn fc) (.slice ea en ec) (.slice sa sn sc) (.slice ka 0 kc), .int .i64 most] w fun en' w' => en' = .returned (.int .i64 ((1 + fn + en + sumM m sn + sn : Nat) : Int)) ∧ Below w.heap.size w w' := by
  obtain ⟨hbx, hB⟩ := boxed w k l s (.slice fa fn fc) (.slice ea en ec) (.slice sa sn sc) (.slice ka 0 kc)
  have HS := Lib.hid hs
  have HZ := Lib.hid hsz
  have h1 : (1 : Int) + fn ≤ 9223372036854775807 := by omega
  have h2 : (1 : Int) + fn + en ≤ 9223372036854775807 := by omega
  clear hs hsz
  unfold geomV
  go_enter Tryd.func50, Tryd.ntmps50
  go_wp2_with fail
  go_loopg [21, 5] sn (fun mm v21 v5 wr => ∃ i : Nat, i + mm = sn ∧ v21 = .int .i64 i ∧ v5 = .int .i64 ((1 + fn + en + sumM m i + i : Nat) : Int) ∧ Below w.heap.size w wr ∧ Box wr w.heap.size 33 (geomC k l s (.slice fa fn fc) (.slice ea en ec) (.slice sa sn sc) (.slice ka 0 kc)))
  case atStart => exact ⟨0, by omega, rfl, by simp [sumM], hB, hbx⟩
  case round =>
    clear hbx hB h1 h2
    obtain ⟨i, hi, rfl, rfl, hB, hbx⟩ := hrel
    have c6 : wr.cell? ⟨w.heap.size, 6, none⟩ = some (.slice ka 0 kc) := hbx.cell 6
    cases gk with
    | zero =>
      have hin : i = sn := by omega
      subst hin
      obtain ⟨R, hR⟩ : ∃ R : Nat, 1 + fn + en + sumM m i + i = R := ⟨_, rfl⟩
      rw [hR]
      have HR := Lib.hid hR
      clear hR hbx
      go_wp2_with fail
      go_loopg [34, 5] 0 (fun mm v v5 wx => v = .int .i64 0 ∧ v5 = .int .i64 (R : Int) ∧ wx = wr)
      case atStart => exact ⟨rfl, rfl, rfl⟩
      case round =>
        obtain ⟨rfl, rfl, rfl⟩ := hrel
        go_wp2_with fail
        go_ret
        exact ⟨by rw [HR.out]; rfl, hB⟩
    | succ mm =>
      have hlt : i < sn := by omega
      obtain ⟨blk, off, rfl, hc⟩ := HS.out (by omega)
      obtain ⟨ao, cap, hc1, _, _, _⟩ := hc i hlt
      have hc2 := cell_kept hB hc1
      clear hc hc1
      have hle : sumM m (i + 1) + (i + 1) ≤ sumM m sn + sn := by
        have : ∀ j, i + 1 ≤ j → sumM m (i + 1) ≤ sumM m j := by
          intro j hj
          induction j with
          | zero => omega
          | succ j ih =>
            rcases Nat.lt_or_ge i j with h | h
            · have := ih (by omega); simp only [sumM] at this ⊢; omega
            · rw [show j = i by omega]; exact Nat.le_refl _
        have := this sn (by omega)
        omega
      have h3 : (((1 + fn + en + sumM m i + i : Nat) : Int) + (1 + (m i : Int))) = ((1 + fn + en + sumM m (i + 1) + (i + 1) : Nat) : Int) := by
        simp only [sumM]; omega
      obtain ⟨R, hR⟩ : ∃ R : Nat, 1 + fn + en + sumM m i + i = R := ⟨_, rfl⟩
      obtain ⟨R2, hR2⟩ : ∃ R : Nat, 1 + fn + en + sumM m (i + 1) + (i + 1) = R := ⟨_, rfl⟩
      rw [hR, hR2] at h3
      rw [hR]
      have HR2 := Lib.hid hR2
      obtain ⟨mi, hmi⟩ : ∃ x, m i = x := ⟨_, rfl⟩
      rw [hmi] at hc2 h3
      have b1 : (R : Int) + (1 + (mi : Int)) ≤ 9223372036854775807 := by have := HZ.out; omega
      have b2 : (1 : Int) + mi ≤ 9223372036854775807 := by omega
      have b3 : (i : Int) + 1 ≤ 9223372036854775807 := by have := HZ.out; omega
      have b4 : (i : Int) < sn := by omega
      have H3 := Lib.hid h3
      clear hle hR hR2 hmi h3
      go_wp2_with fail
      go_roundg mm
      case measure => omega
      case rel => exact ⟨i + 1, by omega, rfl, by rw [HR2.out, H3.out], hB, hbx⟩

set_option maxRecDepth 100000 in
theorem gLayouts_flat {ka : Option Addr} {kc : Nat} (k l s most : Int) (f e es : Value) (w : World) (hk : k ≠ 7) :
    Calls Tryd.prog 51 #[geomV k l s f e es (.slice ka 0 kc), .int .i64 most] w fun en' w' => en' = .returned (.bool (decide (l ≤ most) && decide (1 ≤ l))) ∧ Below w.heap.size w w' := by
  obtain ⟨hbx, hB⟩ := boxed w k l s f e es (.slice ka 0 kc)
  have hk' : (k == 7) = false := beq_eq_false_iff_ne.2 hk
  unfold geomV
  by_cases h1 : l ≤ most
  · by_cases h2 : 1 ≤ l
    all_goals
      go_enter Tryd.func51, Tryd.ntmps51
      go_wp2_with fail
      go_loopg [10] 0 (fun mm v wx => v = .int .i64 0 ∧ Below w.heap.size w wx ∧ Box wx w.heap.size 33 (geomC k l s f e es (.slice ka 0 kc)))
      case atStart => exact ⟨rfl, hB, hbx⟩
      case round =>
        clear hB hbx
        obtain ⟨rfl, hB, hbx⟩ := hrel
        have c0 : wr.cell? ⟨w.heap.size, 0, none⟩ = some (.int .i64 k) := hbx.cell 0
        have c1 : wr.cell? ⟨w.heap.size, 1, none⟩ = some (.int .i64 l) := hbx.cell 1
        clear hbx
        go_wp2_with fail
        go_ret
        exact ⟨retb (by simp; omega), hB⟩
  · go_enter Tryd.func51, Tryd.ntmps51
    go_wp2_with fail
    go_loopg [10] 0 (fun mm v wx => v = .int .i64 0 ∧ Below w.heap.size w wx ∧ Box wx w.heap.size 33 (geomC k l s f e es (.slice ka 0 kc)))
    case atStart => exact ⟨rfl, hB, hbx⟩
    case round =>
      clear hB hbx
      obtain ⟨rfl, hB, hbx⟩ := hrel
      have c1 : wr.cell? ⟨w.heap.size, 1, none⟩ = some (.int .i64 l) := hbx.cell 1
      clear hbx
      go_wp2_with fail
      go_ret
      exact ⟨retb (by simp; omega), hB⟩

theorem Box.cells7 {w : World} {b : Nat} {T : TypeId} {k l s : Int} {f e es ks : Value} (h : Box w b T (geomC k l s f e es ks)) :
    w.cell? ⟨b, 0, none⟩ = some (.int .i64 k) ∧ w.cell? ⟨b, 1, none⟩ = some (.int .i64 l) ∧ w.cell? ⟨b, 2, none⟩ = some (.int .i64 s) ∧ w.cell? ⟨b, 3, none⟩ = some f ∧ w.cell? ⟨b, 4, none⟩ = some e ∧ w.cell? ⟨b, 5, none⟩ = some es ∧ w.cell? ⟨b, 6, none⟩ = some ks :=
  ⟨h.cell 0, h.cell 1, h.cell 2, h.cell 3, h.cell 4, h.cell 5, h.cell 6⟩
/-- What a one-element list of geometries tells where it is small. -/
def SmallOk (l : Int) (R : Nat) (b : Bool) : Prop := b = true → R ≤ 2000 ∧ 1 ≤ l ∧ l ≤ 9

set_option maxRecDepth 100000 in
set_option maxHeartbeats 1600000 in
theorem gSmall_flat {ka : Option Addr} {kc : Nat} (gb : Nat) (k l s : Int) (fa ea sa : Option Addr) (fn fc en ec sn sc : Nat) (m : Nat → Nat) (e : Nat → Nat → Int) (w : World) (hk : k ≠ 7) (hs : LRow w sa sn m e) (hsz : 1 + fn + en + sumM m sn + sn ≤ 9223372036854770000)
    (hbx : Box w gb 33 (geomC k l s (.slice fa fn fc) (.slice ea en ec) (.slice sa sn sc) (.slice ka 0 kc))) :
    Calls Tryd.prog 32 #[.slice (some ⟨gb, 0, none⟩) 1 1] w fun en' w' => ∃ b, en' = .returned (.bool b) ∧ SmallOk l (1 + fn + en + sumM m sn + sn) b ∧ Below w.heap.size w w' := by
  obtain ⟨R, hR⟩ : ∃ R : Nat, 1 + fn + en + sumM m sn + sn = R := ⟨_, rfl⟩
  have hgl := fun w' => gLayouts_flat (ka := ka) (kc := kc) k l s 9 (.slice fa fn fc) (.slice ea en ec) (.slice sa sn sc) w' hk
  obtain ⟨hbn, hBn⟩ := boxed w k l s (.slice fa fn fc) (.slice ea en ec) (.slice sa sn sc) (.slice ka 0 kc)
  have hwt := weight_flat (ka := ka) (kc := kc) k l s 2000 fa ea sa fn fc en ec sn sc m e _ (hs.below hBn) (by omega)
  rw [hR] at hsz hwt ⊢
  obtain ⟨c0, c1, c2, c3, c4, c5, c6⟩ := hbx.cells7
  clear hs hR hk hbx
  unfold geomV at hgl hwt
  obtain ⟨lb, hlb⟩ : ∃ lb, (decide (l ≤ 9) && decide (1 ≤ l)) = lb := ⟨_, rfl⟩
  rw [hlb] at hgl
  have HL := Lib.hid hlb
  clear hlb
  go_enter Tryd.func32, Tryd.ntmps32
  go_wp2_with fail
  go_loopg [8, 3] 1 (fun mm v8 v3 wr => (mm = 1 ∧ v8 = .int .i64 0 ∧ v3 = .int .i64 2000 ∧ wr = w ∨ mm = 0 ∧ v8 = .int .i64 1 ∧ SmallOk l R true ∧ Below w.heap.size w wr))
  case atStart => exact Or.inl ⟨rfl, rfl, rfl, rfl⟩
  case round =>
    rcases hrel with h | h
    · obtain ⟨rfl, rfl, rfl, rfl⟩ := h
      go_wp2_with fail
      refine hwt.mono ?_
      rintro en w1 ⟨rfl, hB1⟩
      clear hwt c0 c1 c2 c3 c4 c5 c6
      have hB := hBn.trans (hB1.mono hBn.size)
      obtain ⟨c0, c1, c2, c3, c4, c5, c6⟩ := (hbn.below hB1).cells7
      clear hbn hBn hB1
      have b1 : (R : Int) ≤ 9223372036854770000 := by omega
      by_cases h2 : R ≤ 2000
      · have h3 : ¬ (2000 : Int) - (R : Int) < 0 := by omega
        go_wp2_with fail
        refine (hgl _).mono ?_
        rintro en w2 ⟨rfl, hB2⟩
        clear hgl c0 c1 c2 c3 c4 c5 c6
        have hBB := hB.trans (hB2.mono hB.size)
        cases lb with
        | true =>
          go_wp2_with fail
          go_roundg 0
          case measure => omega
          case rel =>
            refine Or.inr ⟨rfl, rfl, fun _ => ?_, hBB⟩
            have h := HL.out
            simp at h
            omega
        | false =>
          go_wp2_with fail
          go_ret
          exact ⟨_, rfl, (fun h => by cases h), hBB⟩
      · have h3 : (2000 : Int) - (R : Int) < 0 := by omega
        go_wp2_with fail
        go_ret
        exact ⟨_, rfl, (fun h => by cases h), hB⟩
    · obtain ⟨rfl, rfl, hok, hB⟩ := h
      clear hwt hgl c0 c1 c2 c3 c4 c5 c6
      go_wp2_with fail
      go_ret
      exact ⟨_, rfl, hok, hB⟩
end Go.Proofs.YtodihpaabkplhaaDoor
