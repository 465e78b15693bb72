/- DoorFlat1Ends, impl.PointsText. Any geometry: gSmall, gGood. FnPointsText's law. -/
import Derived.Test.YtodihpaabkplhaaDoorFlv
import Derived.Test.YtodihpaabkplhaaDoorDco
import Derived.Test.YtodihpaabkplhaaDoorTre
import Derived.Test.YtodihpaabkplhaaDoorPow

namespace Go.Proofs.YtodihpaabkplhaaDoor
open Go.RowKit

set_option maxRecDepth 100000 in
set_option maxHeartbeats 800000 in
theorem doorEnds_any (cb co n k s cap ec : Nat) (ao eo : Option Addr) (xs e : Nat → Nat) (digits : Int) (w : World) (T : Tabs cb co w) (hr : FRowO w ao n xs) (hie : IRow w eo k (fun i => (e i : Int))) (hE : EndsUp s 0 e k) (hto : fromE 0 e k ≤ n) (hcap : n ≤ cap) (hcm : cap ≤ maxLen) (p0 : -1 ≤ digits) (p1 : digits ≤ 20) (hlen : n * 20006 + k * 9 + 2 ≤ 100000000) :
    Calls Tryd.prog 39 #[.slice ao n cap, .slice eo k ec, .int .i64 digits] w fun en9 w' => en9 = .returned (.tuple #[.string (str (pointsB xs digits 0 e k)), .nilIface]) ∧ Below w.heap.size w w' := by
  obtain ⟨W1, hW1, hb, he, hB, hsz⟩ := fresh_pair w digits
  have hwc := writeEnds_any cb co w.heap.size (w.heap.size + 1) n k s cap ec 0 ao eo [] xs e digits w W1 T hB hb he (by omega) hr hie hE hto hcap hcm p0 p1 (by simp; omega)
  rw [List.nil_append] at hwc
  obtain ⟨g, hg⟩ : ∃ g, w.heap.size = g := ⟨_, rfl⟩
  rw [hg] at hwc hB hsz ⊢
  obtain ⟨L, hL⟩ : ∃ L, (pointsB xs digits 0 e k) = L := ⟨_, rfl⟩
  rw [hL] at hwc ⊢
  clear hlen hto hE hie hr T hb he hL
  go_enter Tryd.func39, Tryd.ntmps39
  go_wp2_with fail
  refine hwc.mono ?_
  rintro en w2 ⟨rfl, hb2, hB2, _⟩
  clear hwc
  have hst := string_any g g L w2 hb2 (by have := hB.size; have := hB2.size; omega)
  go_wp2_with fail
  refine hst.mono ?_
  rintro en w3 ⟨rfl, hB3⟩
  clear hst
  go_wp2
  go_ret2
  exact ⟨rfl, (hB.trans hB2).trans hB3⟩

/-- The deferred closure, where nothing has panicked. -/
theorem PointsText_idle (p q : Addr) (w : World) :
    CallsD Tryd.prog 38 #[.pointer (some p), .pointer (some q)] .returning w fun e u' w' => e = .returned (.tuple #[]) ∧ u' = .returning ∧ w' = w := by
  refine callsD_of_wpS Tryd.func38 rfl fun c₀ cs hu => ?_
  apply wpS_seq
  apply wpS_region
  simp [wpOpsS, go_sem, recoverD, hu, Tryd.ntmps38, Exit.thenS]
  refine wpS_cond (t := false) (by simp [Act.eval, Array.replicate]) ?_
  simp only [Bool.false_eq_true, if_false]
  refine wpS_of_wp (wp_skip ?_)
  cases c₀
  simp_all [bodyPostS, results, Tryd.results38]

set_option maxRecDepth 100000 in
set_option maxHeartbeats 800000 in
theorem PointsText_any (cb co n k s cap ec : Nat) (ao eo : Option Addr) (xs e : Nat → Nat) (digits : Int) (w : World) (T : Tabs cb co w) (hr : FRowO w ao n xs) (hie : IRow w eo k (fun i => (e i : Int))) (hE : EndsUp s 0 e k) (hto : fromE 0 e k ≤ n) (hcap : n ≤ cap) (hcm : cap ≤ maxLen) (p0 : -1 ≤ digits) (p1 : digits ≤ 20) (hlen : n * 20006 + k * 9 + 2 ≤ 100000000) :
    Calls Tryd.prog 17 #[.slice ao n cap, .slice eo k ec, .int .i64 digits] w fun en9 w' => en9 = .returned (.tuple #[.string (str (pointsB xs digits 0 e k)), .bool true]) ∧ Below w.heap.size w w' := by
  have hmf : ∀ (fn : Fn) (first cap : Array Value) (w : World), (Instr.makeFunc fn first cap).run Tryd.prog w = .ok (.func fn first cap) w := fun _ _ _ _ => rfl
  obtain ⟨g, hg⟩ : ∃ g, w.heap.size = g := ⟨_, rfl⟩
  obtain ⟨W1, hW1⟩ : ∃ W1, (w.alloc (.cells #[.string ⟨#[]⟩] 9)).alloc (.cells #[.bool false] 4) = W1 := ⟨_, rfl⟩
  have hB1 : Below g w W1 := hW1 ▸ ((Below.refl _ _).alloc (by omega) _).alloc (by show g ≤ (w.heap.push _).size; simp; omega) _
  have hbg : Below w.heap.size w W1 := hg ▸ hB1
  have hd := doorEnds_any cb co n k s cap ec ao eo xs e digits W1 (T.below hbg) (hr.below hbg) (hie.below hbg) hE hto hcap hcm p0 p1 hlen
  obtain ⟨L, hL⟩ : ∃ L, (pointsB xs digits 0 e k) = L := ⟨_, rfl⟩
  rw [hL] at hd ⊢
  have hs1 : (w.alloc (.cells #[.string ⟨#[]⟩] 9)).heap.size = g + 1 := by show (w.heap.push _).size = _; simp; exact hg
  have c1 : W1.heap[g]? = some (.cells #[.string ⟨#[]⟩] 9 (0, 0)) := by
    rw [← hW1, Below.heap_alloc _ _ g (by omega), ← hg]
    exact heap_new _ _
  have c2 : W1.heap[g + 1]? = some (.cells #[.bool false] 4 (0, 0)) := by
    rw [← hW1, ← hs1]
    exact heap_new _ _
  clear hlen hto hE hie hr T hL hs1 hbg
  go_enter_defers Tryd.func17, Tryd.ntmps17
  go_wp2_with fail
  refine hd.mono ?_
  rintro en w2 ⟨rfl, hB2⟩
  clear hd hW1
  have k1 : w2.heap[g]? = some (.cells #[.string ⟨#[]⟩] 9 (0, 0)) := (hB2.block g (heap_lt c1)).trans c1
  have k2 : w2.heap[g + 1]? = some (.cells #[.bool false] 4 (0, 0)) := (hB2.block (g + 1) (heap_lt c2)).trans c2
  have d1 : w2.cell? ⟨g, 0, none⟩ = some (.string ⟨#[]⟩) := by rw [Lib.cell_of_heap k1]; rfl
  have d2 : w2.cell? ⟨g + 1, 0, none⟩ = some (.bool false) := by rw [Lib.cell_of_heap k2]; rfl
  have f1 : w2.frozen? ⟨g, 0, none⟩ = false := Lib.frozen_of_heap k1 0
  have f2 : w2.frozen? ⟨g + 1, 0, none⟩ = false := Lib.frozen_of_heap k2 0
  have hB3 : Below g w w2 := hB1.trans (hB2.mono (by have := hB1.size; omega))
  clear k1 k2 c1 c2 hB1 hB2
  go_wp2
  go_region
  all_goals go_wp2
  refine leaves_cons (f := 38) (args := #[.pointer (some ⟨g, 0, none⟩), .pointer (some ⟨g + 1, 0, none⟩)]) (by simp) (by simp [go_sem]) ?_
  refine (PointsText_idle ⟨g, 0, none⟩ ⟨g + 1, 0, none⟩ _).mono ?_
  rintro e u' w'' ⟨rfl, rfl, rfl⟩
  have hBf : Below g w (((w2.setCell ⟨g, 0, none⟩ (.string (str L))).setCell ⟨g, 0, none⟩ (.string (str L))).setCell ⟨g + 1, 0, none⟩ (.bool true)).drew := (((hB3.setCell (p := ⟨g, 0, none⟩) (Nat.le_refl _) _).setCell (p := ⟨g, 0, none⟩) (Nat.le_refl _) _).setCell (p := ⟨g + 1, 0, none⟩) (Nat.le_succ _) _).drew
  simp [Leaves, settle, results, Tryd.results17, go_sem, d1, d2]
  rw [hg]
  exact hBf
end Go.Proofs.YtodihpaabkplhaaDoor

namespace Go.Proofs.YtodihpaabkplhaaDoor
open Go.RowKit

set_option maxRecDepth 100000 in
set_option maxHeartbeats 1600000 in
theorem gSmall_tree (gb : Nat) (k l s : Int) (fa ea sa ka : Option Addr) (fn fc en ec sn sc kn kc : Nat) (D : Nat) (w : World) (ht : GTree w D (geomC k l s (.slice fa fn fc) (.slice ea en ec) (.slice sa sn sc) (.slice ka kn kc)))
    (hbx : Box w gb 33 (geomC k l s (.slice fa fn fc) (.slice ea en ec) (.slice sa sn sc) (.slice ka kn kc))) :
    Calls Tryd.prog 32 #[.slice (some ⟨gb, 0, none⟩) 1 1] w (SomeBool w) := by
  obtain ⟨hbn, hBn⟩ := boxed w k l s (.slice fa fn fc) (.slice ea en ec) (.slice sa sn sc) (.slice ka kn kc)
  have hwt := weight_tree D _ 2000 _ (GTree.below hBn _ _ ht)
  have hgl := fun w' (hw : Below w.heap.size w w') => gLayouts_tree D _ 9 w' (GTree.below hw _ _ ht)
  obtain ⟨c0, c1, c2, c3, c4, c5, c6⟩ := hbx.cells7
  have HGL := Lib.hid hgl
  clear ht hbx hgl
  unfold geomC at hwt
  go_enter Tryd.func32, Tryd.ntmps32
  go_wp2_with fail
  go_loopg [8, 3] 1 (fun mm v8 v3 wr => (mm = 1 ∧ v8 = .int .i64 0 ∧ v3 = .int .i64 2000 ∧ wr = w ∨ mm = 0 ∧ v8 = .int .i64 1 ∧ Below w.heap.size w wr))
  case atStart => exact Or.inl ⟨rfl, rfl, rfl, rfl⟩
  case round =>
    rcases hrel with h | h
    · obtain ⟨rfl, rfl, rfl, rfl⟩ := h
      go_wp2_with fail
      refine hwt.mono ?_
      rintro en3 w1 ⟨x, rfl, hB1⟩
      clear hwt c0 c1 c2 c3 c4 c5 c6
      have hB := hBn.trans (hB1.mono hBn.size)
      have hgl := HGL.out _ hB
      unfold geomC at hgl
      obtain ⟨c0, c1, c2, c3, c4, c5, c6⟩ := (hbn.below hB1).cells7
      clear hbn hBn hB1
      by_cases h2 : wrap64 (2000 - x) < 0
      · go_wp2_with fail
        go_ret
        exact ⟨_, rfl, hB⟩
      · go_wp2_with fail
        refine hgl.mono ?_
        rintro en4 w2 ⟨b, rfl, hB2⟩
        have hBB := hB.trans (hB2.mono hB.size)
        clear hgl c0 c1 c2 c3 c4 c5 c6
        cases b with
        | true =>
          go_wp2_with fail
          go_roundg 0
          case measure => omega
          case rel => exact Or.inr ⟨rfl, rfl, hBB⟩
        | false =>
          go_wp2_with fail
          go_ret
          exact ⟨_, rfl, hBB⟩
    · obtain ⟨rfl, rfl, hB⟩ := h
      clear hwt c0 c1 c2 c3 c4 c5 c6
      go_wp2_with fail
      go_ret
      exact ⟨_, rfl, hB⟩
theorem goodT_any (k l q : Int) (fa ea sa ka : Option Addr) (fn fc en ec sn sc kn kc : Nat) (D : Nat) (w : World) (ht : GTree w D (geomC k l q (.slice fa fn fc) (.slice ea en ec) (.slice sa sn sc) (.slice ka kn kc))) :
    Calls Tryd.prog 33 #[.agg #[.int .i64 k, .int .i64 l, .int .i64 q, .slice fa fn fc, .slice ea en ec, .slice sa sn sc, .slice ka kn kc]] w fun en' w' => ∃ b, en' = .returned (.bool b) ∧ (b = true → k ≠ 7 → kn = 0) ∧ Below w.heap.size w w' := by
  by_cases h7 : k = 7
  · exact (good_tree D _ w ht).mono (fun _ _ ⟨b, h1, h2⟩ => ⟨b, h1, fun _ h => absurd h7 h, h2⟩)
  · cases D with
    | zero => exact ht.elim
    | succ D =>
      obtain ⟨k', l', q', fa', ea', sa', ka', fn', fc', en', ec', sn', sc', kn', kc', e, m, ee, h1, hlen, hl64, hie, hls, _⟩ := ht
      unfold geomC at h1
      simp only [Array.mk.injEq, List.cons.injEq, Value.int.injEq, Value.slice.injEq, true_and, and_true] at h1
      obtain ⟨rfl, rfl, rfl, ⟨rfl, rfl, rfl⟩, ⟨rfl, rfl, rfl⟩, ⟨rfl, rfl, rfl⟩, ⟨rfl, rfl, rfl⟩⟩ := h1
      have g9 : (strideI l).toNat ≤ 9223372036854775807 := by
        have := hl64.2
        unfold strideI
        split
        · omega
        · split
          · omega
          · split <;> omega
      obtain ⟨u1, u2, u3, u4⟩ := hlen
      unfold maxLen at u1 u2 u3 u4
      exact (good_plain k l q fa ea sa ka fn fc en ec sn sc kn kc (strideI l).toNat e m ee w h7 (strideI_nat l) hie hls (by omega) (by omega) (by omega) (by omega) g9).mono (fun _ _ ⟨b, h1, hok, h2⟩ => ⟨b, h1, fun hb _ => (hok hb).kids, h2⟩)

/-- A good list of one geometry that is no collection: it has no parts. -/
def TreeOk (k : Int) (kn : Nat) (b : Bool) : Prop := b = true → k ≠ 7 → kn = 0

set_option maxRecDepth 100000 in
set_option maxHeartbeats 1600000 in
theorem gGood_tree (gb : Nat) (k l q : Int) (fa ea sa ka : Option Addr) (fn fc en ec sn sc kn kc : Nat) (D : Nat) (w : World) (ht : GTree w D (geomC k l q (.slice fa fn fc) (.slice ea en ec) (.slice sa sn sc) (.slice ka kn kc)))
    (hbx : Box w gb 33 (geomC k l q (.slice fa fn fc) (.slice ea en ec) (.slice sa sn sc) (.slice ka kn kc))) :
    Calls Tryd.prog 15 #[.slice (some ⟨gb, 0, none⟩) 1 1] w fun en' w' => ∃ b, en' = .returned (.bool b) ∧ TreeOk k kn b ∧ Below w.heap.size w w' := by
  have hsm := gSmall_tree gb k l q fa ea sa ka fn fc en ec sn sc kn kc D w ht hbx
  have HT := Lib.hid ht
  have HB := Lib.hid hbx
  clear ht hbx
  go_enter Tryd.func15, Tryd.ntmps15
  go_wp2_with fail
  refine hsm.mono ?_
  rintro en1 w1 ⟨b, rfl, hB1⟩
  clear hsm
  cases b with
  | false =>
    go_wp2_with fail
    go_ret
    exact ⟨_, rfl, (fun h => by cases h), hB1⟩
  | true =>
    have hbx1 := HB.out.below hB1
    obtain ⟨c0, c1, c2, c3, c4, c5, c6⟩ := hbx1.cells7
    obtain ⟨hbn, hBn⟩ := boxed w1 k l q (.slice fa fn fc) (.slice ea en ec) (.slice sa sn sc) (.slice ka kn kc)
    have hgd1 := goodT_any k l q fa ea sa ka fn fc en ec sn sc kn kc D _ (GTree.below (hB1.trans (hBn.mono hB1.size)) _ _ HT.out)
    clear hbx1
    go_wp2_with fail
    go_loopg [10] 1 (fun mm v10 wr => (mm = 1 ∧ v10 = .int .i64 0 ∧ wr = w1 ∨ mm = 0 ∧ v10 = .int .i64 1 ∧ TreeOk k kn true ∧ Below w.heap.size w wr))
    case atStart => exact Or.inl ⟨rfl, rfl, rfl⟩
    case round =>
      rcases hrel with h | h
      · obtain ⟨rfl, rfl, rfl⟩ := h
        go_wp2_with fail
        refine hgd1.mono ?_
        rintro en2 w2 ⟨b, rfl, hok, hB2⟩
        clear hgd1 c0 c1 c2 c3 c4 c5 c6 hbn
        have hBB := hB1.trans ((hBn.trans (hB2.mono hBn.size)).mono hB1.size)
        clear hB2 hBn
        cases b with
        | false =>
          clear hok
          go_wp2_with fail
          go_ret
          exact ⟨_, rfl, (fun h => by cases h), hBB⟩
        | true =>
          go_wp2_with fail
          go_roundg 0
          case measure => omega
          case rel => exact Or.inr ⟨rfl, rfl, (fun _ => hok trivial), hBB⟩
      · obtain ⟨rfl, rfl, hok, hB⟩ := h
        clear hgd1 c0 c1 c2 c3 c4 c5 c6 hbn hBn
        go_wp2_with fail
        go_ret
        exact ⟨_, rfl, hok, hB⟩

/-- gGood of any geometry. -/
def AnyOk (k l : Int) (fn en sn kn : Nat) (e : Nat → Int) (m : Nat → Nat) (ee : Nat → Nat → Int) (b : Bool) : Prop :=
  b = true → k ≠ 7 → kn = 0 ∧ 1 + fn + en + sumM m sn + sn ≤ 2000 ∧ 1 ≤ l ∧ l ≤ 9 ∧ GoodFacts k fn en sn 0 (strideI l).toNat e m ee
theorem gGood_any (gb : Nat) (k l q : Int) (fa ea sa ka : Option Addr) (fn fc en ec sn sc kn kc : Nat) (e : Nat → Int) (m : Nat → Nat) (ee : Nat → Nat → Int) (D : Nat) (w : World) (ht : GTree w D (geomC k l q (.slice fa fn fc) (.slice ea en ec) (.slice sa sn sc) (.slice ka kn kc)))
    (he : IRow w ea en e) (hs : LRow w sa sn m ee) (hsz : 1 + fn + en + sumM m sn + sn ≤ 9223372036854770000)
    (hbx : Box w gb 33 (geomC k l q (.slice fa fn fc) (.slice ea en ec) (.slice sa sn sc) (.slice ka kn kc))) :
    Calls Tryd.prog 15 #[.slice (some ⟨gb, 0, none⟩) 1 1] w fun en' w' => ∃ b, en' = .returned (.bool b) ∧ AnyOk k l fn en sn kn e m ee b ∧ Below w.heap.size w w' := by
  by_cases h7 : k = 7
  · exact (gGood_tree gb k l q fa ea sa ka fn fc en ec sn sc kn kc D w ht hbx).mono (fun _ _ ⟨b, h1, _, h2⟩ => ⟨b, h1, fun _ h => absurd h7 h, h2⟩)
  · by_cases h0 : kn = 0
    · subst h0
      exact (gGood_flat gb k l q fa ea sa fn fc en ec sn sc e m ee w h7 he hs hsz hbx).mono (fun _ _ ⟨b, h1, h2, h3⟩ => ⟨b, h1, fun hb _ => ⟨rfl, h2 hb⟩, h3⟩)
    · exact (gGood_tree gb k l q fa ea sa ka fn fc en ec sn sc kn kc D w ht hbx).mono (fun _ _ ⟨b, h1, h2, h3⟩ => ⟨b, h1, fun hb h => absurd (h2 hb h) h0, h3⟩)
end Go.Proofs.YtodihpaabkplhaaDoor

namespace Go.Proofs.YtodihpaabkplhaaDoor
open Go.RowKit

def FitsP (sn : Nat) (m : Nat → Nat) (b : Bool) : Prop := b = true → sn ≤ 2147483647 ∧ ∀ i, i < sn → m i ≤ 2147483647
set_option maxRecDepth 100000 in
set_option maxHeartbeats 1600000 in
theorem zzF3_any (so : Option Addr) (sn sc : Nat) (m : Nat → Nat) (e : Nat → Nat → Int) (w : World) (hs : LRow w so sn m e) :
    Calls Tryd.prog 22 #[.slice so sn sc] w fun en w' => ∃ b, en = .returned (.bool b) ∧ FitsP sn m b ∧ w = w' := by
  have HS := Lib.hid hs
  clear hs
  by_cases hb : 2147483647 < sn
  · have hb' : (2147483647 : Int) < (sn : Int) := by omega
    clear hb
    go_enter Tryd.func22, Tryd.ntmps22
    go_wp2_with fail
    go_ret
    exact ⟨_, rfl, (fun h => by cases h), rfl⟩
  · have hb' : ¬ (2147483647 : Int) < (sn : Int) := by omega
    have hb2 : (sn : Int) ≤ 2147483647 := by omega
    have HB := Lib.hid hb
    clear hb
    go_enter Tryd.func22, Tryd.ntmps22
    go_wp2_with fail
    go_loopg [10] sn (fun mm v wr => ∃ i : Nat, i + mm = sn ∧ v = .int .i64 (i : Int) ∧ Hid (∀ j, j < i → m j ≤ 2147483647) ∧ wr = w)
    case atStart => exact ⟨0, by omega, rfl, Lib.hid (fun _ h => absurd h (by omega)), rfl⟩
    case round =>
      obtain ⟨i, hi, rfl, hok, rfl⟩ := hrel
      cases gk with
      | zero =>
        have hin : i = sn := by omega
        subst hin
        go_wp2_with fail
        go_ret
        exact ⟨_, rfl, (fun _ => ⟨by have := HB.out; omega, hok.out⟩), rfl⟩
      | succ mm =>
        obtain ⟨lb, lo, rfl, hcel⟩ := HS.out (by omega)
        obtain ⟨eo, ec, ce, _, _, _⟩ := hcel i (by omega)
        have hin : (i : Int) < (sn : Int) := by omega
        obtain ⟨M, hM⟩ : ∃ M, m i = M := ⟨_, rfl⟩
        rw [hM] at ce
        have HM := Lib.hid hM
        clear hcel hM
        by_cases hM9 : 2147483647 < M
        · have hM' : (2147483647 : Int) < (M : Int) := by omega
          clear hM9
          go_wp2_with fail
          go_ret
          exact ⟨_, rfl, (fun h => by cases h), rfl⟩
        · have hM' : ¬ (2147483647 : Int) < (M : Int) := by omega
          have HM9 := Lib.hid hM9
          clear hM9
          go_wp2_with fail
          go_roundg mm
          case measure => omega
          case rel =>
            refine ⟨i + 1, by omega, rfl, Lib.hid (fun j hj => ?_), rfl⟩
            rcases Nat.lt_or_ge j i with h | h
            · exact hok.out j h
            · rw [show j = i by omega, HM.out]
              have := HM9.out
              omega

def FitsG (fn en sn : Nat) (m : Nat → Nat) (b : Bool) : Prop := b = true → fn ≤ 2147483647 ∧ en ≤ 2147483647 ∧ FitsP sn m true
def FitsOut (fn en sn : Nat) (m : Nat → Nat) (w : World) (e : Ending) (w' : World) : Prop := ∃ b : Bool, e = .returned (.bool b) ∧ FitsG fn en sn m b ∧ Below w.heap.size w w'
theorem sumM_bnd (m : Nat → Nat) (K : Nat) : ∀ n, (∀ i, i < n → m i ≤ K) → sumM m n ≤ n * K
  | 0, _ => Nat.zero_le _
  | n + 1, h => by
    have h1 := sumM_bnd m K n (fun i hi => h i (by omega))
    have h2 := h n (by omega)
    show sumM m n + m n ≤ (n + 1) * K
    rw [Nat.succ_mul]
    omega
set_option maxRecDepth 100000 in
set_option maxHeartbeats 1600000 in
theorem zzFits2_any (k l q : Int) (fa ea sa ka : Option Addr) (fn fc en ec sn sc kn kc : Nat) (m : Nat → Nat) (e : Nat → Nat → Int) (w : World) (hs : LRow w sa sn m e) (hfn : fn ≤ 9223372036854775807) (hen : en ≤ 9223372036854775807) (hkn : kn ≤ 9223372036854775807) :
    Calls Tryd.prog 14 #[geomV k l q (.slice fa fn fc) (.slice ea en ec) (.slice sa sn sc) (.slice ka kn kc)] w (FitsOut fn en sn m w) := by
  obtain ⟨hbx, hB⟩ := boxed w k l q (.slice fa fn fc) (.slice ea en ec) (.slice sa sn sc) (.slice ka kn kc)
  have hz := zzF3_any sa sn sc m e _ (hs.below hB)
  obtain ⟨c0, c1, c2, c3, c4, c5, c6⟩ := hbx.cells7
  clear hbx hs
  unfold geomV
  by_cases h1 : 2147483647 < fn
  · have h1' : (2147483647 : Int) < (fn : Int) := by omega
    clear h1
    go_enter Tryd.func14, Tryd.ntmps14
    go_wp2_with fail
    go_ret
    exact ⟨_, rfl, (fun h => by cases h), hB⟩
  have h1' : ¬ (2147483647 : Int) < (fn : Int) := by omega
  by_cases h2 : 2147483647 < en
  · have h2' : (2147483647 : Int) < (en : Int) := by omega
    clear h1 h2
    go_enter Tryd.func14, Tryd.ntmps14
    go_wp2_with fail
    go_ret
    exact ⟨_, rfl, (fun h => by cases h), hB⟩
  have h2' : ¬ (2147483647 : Int) < (en : Int) := by omega
  have H1 := Lib.hid h1
  have H2 := Lib.hid h2
  clear h1 h2
  go_enter Tryd.func14, Tryd.ntmps14
  go_wp2_with fail
  refine hz.mono ?_
  rintro en1 w1 ⟨b, rfl, hf, rfl⟩
  clear hz
  cases b with
  | false =>
    go_wp2_with fail
    go_ret
    exact ⟨_, rfl, (fun h => by cases h), hB⟩
  | true =>
    have HF := Lib.hid hf
    clear hf
    by_cases h3 : 2147483647 < kn
    · have h3' : (2147483647 : Int) < (kn : Int) := by omega
      clear h3
      go_wp2_with fail
      go_ret
      exact ⟨_, rfl, (fun h => by cases h), hB⟩
    · have h3' : ¬ (2147483647 : Int) < (kn : Int) := by omega
      clear h3
      go_wp2_with fail
      go_ret
      exact ⟨_, rfl, (fun _ => ⟨by have := H1.out; omega, by have := H2.out; omega, HF.out⟩), hB⟩

set_option maxRecDepth 100000 in
set_option maxHeartbeats 3200000 in
theorem fnPointsText_any (cb co D : Nat) (k l q : Int) (fa ea sa ka : Option Addr) (fn fc en ec sn sc kn kc : Nat) (xs : Nat → Nat) (ee : Nat → Int) (m : Nat → Nat) (le : Nat → Nat → Int) (d : Int) (w : World) (T : Tabs cb co w)
    (ht : GTree w D (geomC k l q (.slice fa fn fc) (.slice ea en ec) (.slice sa sn sc) (.slice ka kn kc))) (hr : FRowO w fa fn xs) (hie : IRow w ea en ee) (hls : LRow w sa sn m le) (hcap : fn ≤ fc) (hcm : fc ≤ maxLen) (hen : en ≤ maxLen) (hkn : kn ≤ maxLen)
    (d0 : -9223372036854775808 ≤ d) (d1 : d ≤ 9223372036854775807) :
    Calls Tryd.prog 5 #[geomV k l q (.slice fa fn fc) (.slice ea en ec) (.slice sa sn sc) (.slice ka kn kc), .int .i64 d] w fun e9 w' => e9 = .returned (.bool true) ∧ Below w.heap.size w w' := by
  obtain ⟨hbx, hB⟩ := boxed w k l q (.slice fa fn fc) (.slice ea en ec) (.slice sa sn sc) (.slice ka kn kc)
  have hz := zzFits2_any k l q fa ea sa ka fn fc en ec sn sc kn kc m le _ (hls.below hB) (by unfold maxLen at hcm; omega) (by unfold maxLen at hen; omega) (by unfold maxLen at hkn; omega)
  have hxd := fun w' => xDigits_any d w' d0 d1
  obtain ⟨db, hdb⟩ : ∃ db, (decide (-1 ≤ d) && decide (d ≤ 20)) = db := ⟨_, rfl⟩
  rw [hdb] at hxd
  have HDB := Lib.hid hdb
  obtain ⟨c0, c1, c2, c3, c4, c5, c6⟩ := hbx.cells7
  have HT := Lib.hid T
  have HR := Lib.hid hr
  have HM := Lib.hid hcm
  have HC := Lib.hid hcap
  have HIE := Lib.hid hie
  have HLS := Lib.hid hls
  have HTR := Lib.hid ht
  have HBX := Lib.hid hbx
  clear T hr hcm hcap hie hls ht hbx hen hkn hdb
  unfold geomV at hz ⊢
  go_enter Tryd.func5, Tryd.ntmps5
  go_wp2_with fail
  refine hz.mono ?_
  rintro en1 w1 ⟨b, rfl, hf, hB1⟩
  clear hz c0 c1 c2 c3 c4 c5 c6
  have hBw := hB.trans (hB1.mono hB.size)
  have hbx1 := HBX.out.below hB1
  obtain ⟨c0, c1, c2, c3, c4, c5, c6⟩ := hbx1.cells7
  cases b with
  | false =>
    clear hxd hf hbx1
    go_wp2_with fail
    go_ret
    exact ⟨rfl, hBw⟩
  | true =>
  obtain ⟨f1, f2, f3⟩ := hf rfl
  obtain ⟨hsn9, hm9⟩ := f3 rfl
  have hsum := sumM_bnd m 2147483647 sn hm9
  have hprod : sn * 2147483647 ≤ 2147483647 * 2147483647 := Nat.mul_le_mul_right _ hsn9
  obtain ⟨hb2, hB2⟩ := boxed w1 k l q (.slice fa fn fc) (.slice ea en ec) (.slice sa sn sc) (.slice ka kn kc)
  have hBg := hBw.trans (hB2.mono hBw.size)
  have hgg := gGood_any w1.heap.size k l q fa ea sa ka fn fc en ec sn sc kn kc ee m le D _ (GTree.below hBg _ _ HTR.out) (HIE.out.below hBg) (HLS.out.below hBg) (by omega) hb2
  have HBX1 := Lib.hid (hbx1.below hB2)
  clear hf f1 f2 f3 hsn9 hm9 hsum hprod hb2 hbx1
  go_wp2_with fail
  refine hgg.mono ?_
  rintro en2 w2 ⟨b, rfl, hok, hB3⟩
  clear hgg c0 c1 c2 c3 c4 c5 c6
  have hBB := hBg.trans (hB3.mono hBg.size)
  have hbx2 := HBX1.out.below hB3
  obtain ⟨c0, c1, c2, c3, c4, c5, c6⟩ := hbx2.cells7
  cases b with
  | false =>
    clear hok hxd
    go_wp2_with fail
    go_ret
    exact ⟨rfl, hBB⟩
  | true =>
  by_cases hk : k = 4
  rotate_left
  · have hk' : (k != 4) = true := bne_iff_ne.2 hk
    clear hok hk hxd
    go_wp2_with fail
    go_ret
    exact ⟨rfl, hBB⟩
  subst hk
  obtain ⟨rfl, hsz, hl1, hl9, hg⟩ := hok rfl (by decide)
  clear hok
  by_cases hl4 : 4 < l
  · clear hg hxd hsz
    go_wp2_with fail
    go_ret
    exact ⟨rfl, hBB⟩
  have hl4' : ¬ (4 : Int) < l := hl4
  by_cases hn0 : en = 0
  · have hn0' : ((en : Int) == 0) = true := by rw [hn0]; rfl
    clear hg hsz hxd
    go_wp2_with fail
    go_ret
    exact ⟨rfl, hBB⟩
  have hn0' : ((en : Int) == 0) = false := by rw [beq_eq_false_iff_ne]; omega
  cases db with
  | false =>
    clear hg hsz
    go_wp2_with fail
    refine (hxd _).mono ?_
    rintro en3 w3 ⟨rfl, rfl⟩
    clear hxd
    go_wp2_with fail
    go_ret
    exact ⟨rfl, hBB⟩
  | true =>
  obtain ⟨S, hS⟩ : ∃ S, (strideI l).toNat = S := ⟨_, rfl⟩
  rw [hS] at hg
  have hls : strideI l = (S : Int) := by rw [strideI_nat, hS]
  have hs1 : 1 ≤ S := by have := hg.stride; omega
  have hs9 : S ≤ 9 := by rw [← hS]; exact strideI_le l hl9
  have hsn0 : sn = 0 := hg.lists.resolve_left (by decide)
  subst hsn0
  obtain ⟨tt, hge, htt⟩ := hg.ends (by omega)
  obtain ⟨g1, g2, g3, g4⟩ := hge rfl
  obtain ⟨e, he⟩ : ∃ e : Nat → Nat, (fun i => (ee i).toNat) = e := ⟨_, rfl⟩
  have hie2 : IRow w ea en (fun i => (e i : Int)) := HIE.out.congr (fun i hi => by rw [g1 i hi, ← he])
  rw [he] at g2 g3
  have hone : ∀ i, i < en → e i - fromE 0 e i ≤ S := fun i hi => by have h := g4 (by decide) i hi; rw [he] at h; rw [← he] at h ⊢; exact h
  have hto : fromE 0 e en = fn := by rw [← g3, htt]
  have hn2 : fn ≤ 2000 := by omega
  have hen2 : en ≤ 2000 := by omega
  have p0 : -1 ≤ d := by have h := HDB.out; rw [Bool.and_eq_true, decide_eq_true_eq] at h; exact h.1
  have p1 : d ≤ 20 := by have h := HDB.out; rw [Bool.and_eq_true, decide_eq_true_eq, decide_eq_true_eq] at h; exact h.2
  have hwk := points_wkt (sr := q) (ka := ka) (sa := sa) (kc := kc) (sc := sc) cb co fn en S fc ec fa ea l xs e d w2 (HT.out.below hBB) (HR.out.below hBB) (hie2.below hBB) g2 hone hto hn2 hen2 (by omega) hl1 (by omega) hls hs1 hs9 HC.out HM.out p0 p1
  have hlt := fun w' (hw' : Below w.heap.size w w') => PointsText_any cb co fn en S fc ec fa ea xs e d w' (HT.out.below hw') (HR.out.below hw') (hie2.below hw') g2 (by omega) HC.out HM.out p0 p1 (by omega)
  have hxf := fun w' => xFrom_any (headB 4 l) (joinB (fun i => pointB xs d (fromE 0 e i) (e i)) en ++ [41]) w' (head_no40 _ _) (by
    have h1 := head_length 4 l
    have h2 := pointsB_length xs d S 0 e en p0 p1 g2
    rw [pointsB, brackB_length] at h2
    rw [List.length_append, List.length_append, List.length_append, List.length_singleton, List.length_singleton]
    omega)
  have e1 : headB 4 l ++ pointsB xs d 0 e en = headB 4 l ++ [40] ++ (joinB (fun i => pointB xs d (fromE 0 e i) (e i)) en ++ [41]) := by
    rw [pointsB, brackB]; simp [List.append_assoc]
  have e2 : [40] ++ (joinB (fun i => pointB xs d (fromE 0 e i) (e i)) en ++ [41]) = pointsB xs d 0 e en := by
    rw [pointsB, brackB]; simp
  rw [← e1, e2] at hxf
  obtain ⟨WT, hWT⟩ : ∃ WT, str (headB 4 l ++ pointsB xs d 0 e en) = WT := ⟨_, rfl⟩
  obtain ⟨LT, hLT⟩ : ∃ LT, str (pointsB xs d 0 e en) = LT := ⟨_, rfl⟩
  rw [hWT] at hwk hxf
  rw [hLT] at hlt hxf
  have HLT := Lib.hid hlt
  have HBX2 := Lib.hid hbx2
  unfold geomV at hwk
  clear e1 e2 hWT hLT hlt hg hge g1 g2 g3 g4 htt hto he hls hsz hie2 hone hS hbx2
  go_wp2_with fail
  refine (hxd _).mono ?_
  rintro en2 w3 ⟨rfl, rfl⟩
  clear hxd
  go_wp2_with fail
  refine hwk.mono ?_
  rintro en4 w4 ⟨rfl, hB4⟩
  clear hwk c0 c1 c2 c3 c4 c5 c6
  have hB5 := hBB.trans (hB4.mono hBB.size)
  have hlt2 := HLT.out w4 hB5
  obtain ⟨c0, c1, c2, c3, c4, c5, c6⟩ := (HBX2.out.below hB4).cells7
  go_wp2_with fail
  refine hlt2.mono ?_
  rintro en5 w5 ⟨rfl, hB6⟩
  clear hlt2
  go_wp2_with fail
  refine (hxf _).mono ?_
  rintro en6 w6 ⟨rfl, rfl⟩
  clear hxf
  go_wp2_with fail
  go_ret
  exact ⟨retb (by simp), hB5.trans (hB6.mono hB5.size)⟩
end Go.Proofs.YtodihpaabkplhaaDoor
