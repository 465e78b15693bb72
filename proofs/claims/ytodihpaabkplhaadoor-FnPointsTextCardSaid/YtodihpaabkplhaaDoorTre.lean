/- Any geometry: Weight, gLayouts, LayoutOf, Good, gSmall, gGood end. -/
import Derived.Test.YtodihpaabkplhaaDoorGeg
import Derived.Deep.RegionWith
namespace Go.Proofs.YtodihpaabkplhaaDoor
open Go.RowKit

/-- A geometry in memory, its parts D deep at most. -/
def GTree (w : World) : Nat → Array Value → Prop
  | 0, _ => False
  | D + 1, cs => ∃ (k l q : Int) (fa ea sa ka : Option Addr) (fn fc en ec sn sc kn kc : Nat) (e : Nat → Int) (m : Nat → Nat) (ee : Nat → Nat → Int),
      cs = geomC k l q (.slice fa fn fc) (.slice ea en ec) (.slice sa sn sc) (.slice ka kn kc) ∧ (fn ≤ maxLen ∧ en ≤ maxLen ∧ sn ≤ maxLen ∧ kn ≤ maxLen) ∧ I64 l ∧ IRow w ea en e ∧ LRow w sa sn m ee ∧
      (0 < kn → ∃ blk off, ka = some ⟨blk, off, none⟩ ∧ ∀ i, i < kn → ∃ cs', (∀ j, j < 7 → w.cell? ⟨blk, off + i * 7 + j, none⟩ = cs'[j]?) ∧ cs'.size = 7 ∧ GTree w D cs')
theorem GTree.below {w w' : World} (hb : Below w.heap.size w w') : ∀ (D : Nat) (cs : Array Value), GTree w D cs → GTree w' D cs
  | 0, _, h => h
  | D + 1, cs, h => by
    obtain ⟨k, l, q, fa, ea, sa, ka, fn, fc, en, ec, sn, sc, kn, kc, e, m, ee, h1, h2, h3, h4, h5, h6⟩ := h
    refine ⟨k, l, q, fa, ea, sa, ka, fn, fc, en, ec, sn, sc, kn, kc, e, m, ee, h1, h2, h3, h4.below hb, h5.below hb, fun hk => ?_⟩
    obtain ⟨blk, off, g1, g2⟩ := h6 hk
    refine ⟨blk, off, g1, fun i hi => ?_⟩
    obtain ⟨cs', c1, c2, c3⟩ := g2 i hi
    refine ⟨cs', fun j hj => ?_, c2, GTree.below hb D cs' c3⟩
    have h7 := c1 j hj
    have h8 : cs'[j]? = some (cs'[j]'(by omega)) := Array.getElem?_eq_getElem (by omega)
    rw [h8] at h7 ⊢
    exact cell_kept hb h7

theorem kid_cells {w wr : World} {b o : Nat} {k l q : Int} {f e es ks : Value} (hB : Below w.heap.size w wr) (h : ∀ j, j < 7 → w.cell? ⟨b, o + j, none⟩ = (geomC k l q f e es ks)[j]?) :
    wr.cell? ⟨b, o, none⟩ = some (.int .i64 k) ∧ wr.cell? ⟨b, o + 1, none⟩ = some (.int .i64 l) ∧ wr.cell? ⟨b, o + 2, none⟩ = some (.int .i64 q) ∧ wr.cell? ⟨b, o + 3, none⟩ = some f ∧ wr.cell? ⟨b, o + 4, none⟩ = some e ∧ wr.cell? ⟨b, o + 5, none⟩ = some es ∧ wr.cell? ⟨b, o + 6, none⟩ = some ks :=
  ⟨cell_kept hB (h 0 (by decide)), cell_kept hB (h 1 (by decide)), cell_kept hB (h 2 (by decide)), cell_kept hB (h 3 (by decide)), cell_kept hB (h 4 (by decide)), cell_kept hB (h 5 (by decide)), cell_kept hB (h 6 (by decide))⟩
/-- A number comes back, and nothing that was there has turned. -/
def SomeInt (w : World) (e : Ending) (w' : World) : Prop := ∃ x : Int, e = .returned (.int .i64 x) ∧ Below w.heap.size w w'
def SomeBool (w : World) (e : Ending) (w' : World) : Prop := ∃ b : Bool, e = .returned (.bool b) ∧ Below w.heap.size w w'

set_option maxRecDepth 100000 in
set_option maxHeartbeats 1600000 in
theorem weight_tree : ∀ (D : Nat) (cs : Array Value) (most : Int) (w : World), GTree w D cs → Calls Tryd.prog 50 #[.agg cs, .int .i64 most] w (SomeInt w)
  | 0, _, _, _, h => h.elim
  | D + 1, cs, most, w, h => by
    have ih := weight_tree D
    obtain ⟨k, l, q, fa, ea, sa, ka, fn, fc, en, ec, sn, sc, kn, kc, e, m, ee, rfl, hlen, _, _, hs, hk⟩ := h
    obtain ⟨hbx, hB⟩ := boxed w k l q (.slice fa fn fc) (.slice ea en ec) (.slice sa sn sc) (.slice ka kn kc)
    have HS := Lib.hid hs
    have HK := Lib.hid hk
    have HI := Lib.hid ih
    have b1 : (sn : Int) ≤ 9223372036854775807 := by have := hlen.2.2.1; unfold maxLen at this; omega
    have b2 : (kn : Int) ≤ 9223372036854775807 := by have := hlen.2.2.2; unfold maxLen at this; omega
    clear hs hk ih hlen
    unfold geomC
    go_enter Tryd.func50, Tryd.ntmps50
    go_wp2_with fail
    go_loopg [21, 5] sn (fun mm v21 v5 wr => ∃ (i : Nat) (x : Int), i + mm = sn ∧ v21 = .int .i64 i ∧ v5 = .int .i64 x ∧ Below w.heap.size w wr ∧ Box wr w.heap.size 33 (geomC k l q (.slice fa fn fc) (.slice ea en ec) (.slice sa sn sc) (.slice ka kn kc)))
    case atStart => exact ⟨0, _, by omega, rfl, rfl, hB, hbx⟩
    case round =>
      clear hbx hB
      obtain ⟨i, x, hi, rfl, rfl, hB, hbx⟩ := hrel
      cases gk with
      | succ mm =>
        have hlt : (i : Int) < (sn : Int) := by omega
        obtain ⟨blk, off, rfl, hc⟩ := HS.out (by omega)
        obtain ⟨ao, cap, hc1, _, _, _⟩ := hc i (by omega)
        have hc2 := cell_kept hB hc1
        have hiI : (i : Int) ≤ 9223372036854775806 := by omega
        clear hc hc1
        go_wp2_with fail
        go_roundg mm
        case measure => omega
        case rel => exact ⟨i + 1, _, by omega, rfl, rfl, hB, hbx⟩
      | zero =>
        have c6 : wr.cell? ⟨w.heap.size, 6, none⟩ = some (.slice ka kn kc) := hbx.cell 6
        have hin : i = sn := by omega
        subst hin
        clear hbx
        go_wp2_with fail
        go_loopg [34, 5] kn (fun mm v34 v5 wx => ∃ (j : Nat) (y : Int), j + mm = kn ∧ v34 = .int .i64 j ∧ v5 = .int .i64 y ∧ Below w.heap.size w wx)
        case atStart => exact ⟨0, _, by omega, rfl, rfl, hB⟩
        case round =>
          clear hB c6
          obtain ⟨j, y, hj, rfl, rfl, hB⟩ := hrel
          cases gk with
          | zero =>
            have hjn : j = kn := by omega
            subst hjn
            go_wp2_with fail
            go_ret
            exact ⟨_, rfl, hB⟩
          | succ mm =>
            have hlt : (j : Int) < (kn : Int) := by omega
            have hjI : (j : Int) ≤ 9223372036854775806 := by omega
            obtain ⟨blk, off, rfl, hc⟩ := HK.out (by omega)
            obtain ⟨cs', hcell, hsz, htr⟩ := hc j (by omega)
            obtain ⟨D', rfl⟩ : ∃ D', D = D' + 1 := by cases D with | zero => exact htr.elim | succ D => exact ⟨D, rfl⟩
            have htr0 := htr
            obtain ⟨k1, l1, q1, fa1, ea1, sa1, ka1, fn1, fc1, en1, ec1, sn1, sc1, kn1, kc1, _, _, _, hcs, _⟩ := htr0
            subst hcs
            obtain ⟨r0, r1, r2, r3, r4, r5, r6⟩ := kid_cells hB hcell
            have hBA : Below w.heap.size w (wr.alloc (.cells #[.int .i64 k1, .int .i64 l1, .int .i64 q1, .slice fa1 fn1 fc1, .slice ea1 en1 ec1, .slice sa1 sn1 sc1, .slice ka1 kn1 kc1] 33)) := hB.alloc hB.size _
            have hrec := fun mo => HI.out _ mo _ (GTree.below hBA _ _ htr)
            unfold geomC at hrec
            have HREC := Lib.hid hrec
            clear hc hcell hsz htr hrec
            by_cases hy : most < y
            · go_wp2_with fail
              go_ret
              exact ⟨_, rfl, hBA⟩
            · go_wp2_with fail
              refine (HREC.out _).mono ?_
              rintro en2 w2 ⟨x2, rfl, hB2⟩
              clear r0 r1 r2 r3 r4 r5 r6
              go_wp2_with fail
              go_roundg mm
              case measure => omega
              case rel => exact ⟨j + 1, _, by omega, rfl, rfl, hBA.trans (hB2.mono hBA.size)⟩

set_option maxRecDepth 100000 in
set_option maxHeartbeats 1600000 in
theorem gLayouts_tree : ∀ (D : Nat) (cs : Array Value) (most : Int) (w : World), GTree w D cs → Calls Tryd.prog 51 #[.agg cs, .int .i64 most] w (SomeBool w)
  | 0, _, _, _, h => h.elim
  | D + 1, cs, most, w, h => by
    have ih := gLayouts_tree D
    obtain ⟨k, l, q, fa, ea, sa, ka, fn, fc, en, ec, sn, sc, kn, kc, e, m, ee, rfl, hlen, _, _, _, hk⟩ := h
    obtain ⟨hbx, hB⟩ := boxed w k l q (.slice fa fn fc) (.slice ea en ec) (.slice sa sn sc) (.slice ka kn kc)
    have HK := Lib.hid hk
    have HI := Lib.hid ih
    have b2 : (kn : Int) ≤ 9223372036854775807 := by have := hlen.2.2.2; unfold maxLen at this; omega
    clear hk ih hlen
    unfold geomC
    go_enter Tryd.func51, Tryd.ntmps51
    go_wp2_with fail
    go_loopg [10] kn (fun mm v10 wx => ∃ j : Nat, j + mm = kn ∧ v10 = .int .i64 (j : Int) ∧ Below w.heap.size w wx ∧ Box wx w.heap.size 33 (geomC k l q (.slice fa fn fc) (.slice ea en ec) (.slice sa sn sc) (.slice ka kn kc)))
    case atStart => exact ⟨0, by omega, rfl, hB, hbx⟩
    case round =>
      clear hB hbx
      obtain ⟨j, hj, rfl, hB, hbx⟩ := hrel
      cases gk with
      | zero =>
        have hjn : j = kn := by omega
        subst hjn
        have c0 : wr.cell? ⟨w.heap.size, 0, none⟩ = some (.int .i64 k) := hbx.cell 0
        have c1 : wr.cell? ⟨w.heap.size, 1, none⟩ = some (.int .i64 l) := hbx.cell 1
        clear hbx
        by_cases h1 : l ≤ most
        · by_cases h2 : 1 ≤ l
          · go_wp2_with fail
            go_ret
            exact ⟨_, rfl, hB⟩
          · by_cases h7 : k = 7
            · have h7' : (k == 7) = true := by rw [h7]; rfl
              clear h7
              go_wp2_with fail
              go_ret
              exact ⟨_, rfl, hB⟩
            · have h7' : (k == 7) = false := beq_eq_false_iff_ne.2 h7
              clear h7
              go_wp2_with fail
              go_ret
              exact ⟨_, rfl, hB⟩
        · go_wp2_with fail
          go_ret
          exact ⟨_, rfl, hB⟩
      | succ mm =>
        have hlt : (j : Int) < (kn : Int) := by omega
        have hjI : (j : Int) ≤ 9223372036854775806 := by omega
        obtain ⟨blk, off, rfl, hc⟩ := HK.out (by omega)
        obtain ⟨cs', hcell, hsz, htr⟩ := hc j (by omega)
        obtain ⟨D', rfl⟩ : ∃ D', D = D' + 1 := by cases D with | zero => exact htr.elim | succ D => exact ⟨D, rfl⟩
        have htr0 := htr
        obtain ⟨k1, l1, q1, fa1, ea1, sa1, ka1, fn1, fc1, en1, ec1, sn1, sc1, kn1, kc1, _, _, _, hcs, _⟩ := htr0
        subst hcs
        obtain ⟨r0, r1, r2, r3, r4, r5, r6⟩ := kid_cells hB hcell
        have hBA : Below w.heap.size w (wr.alloc (.cells #[.int .i64 k1, .int .i64 l1, .int .i64 q1, .slice fa1 fn1 fc1, .slice ea1 en1 ec1, .slice sa1 sn1 sc1, .slice ka1 kn1 kc1] 33)) := hB.alloc hB.size _
        have hbxA := hbx.below ((Below.refl wr.heap.size wr).alloc (Nat.le_refl _) (.cells #[.int .i64 k1, .int .i64 l1, .int .i64 q1, .slice fa1 fn1 fc1, .slice ea1 en1 ec1, .slice sa1 sn1 sc1, .slice ka1 kn1 kc1] 33))
        have hrec := HI.out _ most _ (GTree.below hBA _ _ htr)
        unfold geomC at hrec
        clear hc hcell hsz htr hbx
        go_wp2_with fail
        refine hrec.mono ?_
        rintro en2 w2 ⟨b, rfl, hB2⟩
        have hBB := hBA.trans (hB2.mono hBA.size)
        have hbx2 := hbxA.below hB2
        clear hrec r0 r1 r2 r3 r4 r5 r6 hbxA hB2
        cases b with
        | false =>
          go_wp2_with fail
          go_ret
          exact ⟨_, rfl, hBB⟩
        | true =>
          go_wp2_with fail
          go_roundg mm
          case measure => omega
          case rel => exact ⟨j + 1, by omega, rfl, hBB, hbx2⟩

theorem cover_any (a b : Int) (w : World) : Calls Tryd.prog 53 #[.int .i64 a, .int .i64 b] w fun e w' => (∃ x : Int, e = .returned (.int .i64 x)) ∧ w = w' := by
  go_enter Tryd.func53, Tryd.ntmps53
  go_wp2_with fail
  all_goals
    go_ret
    exact ⟨⟨_, rfl⟩, rfl⟩

set_option maxRecDepth 100000 in
set_option maxHeartbeats 1600000 in
theorem layoutOf_tree : ∀ (D : Nat) (cs : Array Value) (w : World), GTree w D cs → Calls Tryd.prog 34 #[.agg cs] w (SomeInt w)
  | 0, _, _, h => h.elim
  | D + 1, cs, w, h => by
    have ih := layoutOf_tree D
    obtain ⟨k, l, q, fa, ea, sa, ka, fn, fc, en, ec, sn, sc, kn, kc, e, m, ee, rfl, hlen, _, _, _, hk⟩ := h
    obtain ⟨hbx, hB⟩ := boxed w k l q (.slice fa fn fc) (.slice ea en ec) (.slice sa sn sc) (.slice ka kn kc)
    have HK := Lib.hid hk
    have HI := Lib.hid ih
    have b2 : (kn : Int) ≤ 9223372036854775807 := by have := hlen.2.2.2; unfold maxLen at this; omega
    clear hk ih hlen
    unfold geomC
    by_cases h7 : k = 7
    · subst h7
      by_cases h0 : l = 0
      · subst h0
        go_enter Tryd.func34, Tryd.ntmps34
        go_wp2_with fail
        go_loopg [19, 3] kn (fun mm v19 v3 wx => ∃ (j : Nat) (x : Int), j + mm = kn ∧ v19 = .int .i64 (j : Int) ∧ v3 = .int .i64 x ∧ Below w.heap.size w wx)
        case atStart => exact ⟨0, _, by omega, rfl, rfl, hB⟩
        case round =>
          clear hB hbx
          obtain ⟨j, x, hj, rfl, rfl, hB⟩ := hrel
          cases gk with
          | zero =>
            have hjn : j = kn := by omega
            subst hjn
            go_wp2_with fail
            go_ret
            exact ⟨_, rfl, hB⟩
          | succ mm =>
            have hlt : (j : Int) < (kn : Int) := by omega
            have hjI : (j : Int) ≤ 9223372036854775806 := by omega
            obtain ⟨blk, off, rfl, hc⟩ := HK.out (by omega)
            obtain ⟨cs', hcell, hsz, htr⟩ := hc j (by omega)
            obtain ⟨D', rfl⟩ : ∃ D', D = D' + 1 := by cases D with | zero => exact htr.elim | succ D => exact ⟨D, rfl⟩
            have htr0 := htr
            obtain ⟨k1, l1, q1, fa1, ea1, sa1, ka1, fn1, fc1, en1, ec1, sn1, sc1, kn1, kc1, _, _, _, hcs, _⟩ := htr0
            subst hcs
            obtain ⟨r0, r1, r2, r3, r4, r5, r6⟩ := kid_cells hB hcell
            have hBA : Below w.heap.size w (wr.alloc (.cells #[.int .i64 k1, .int .i64 l1, .int .i64 q1, .slice fa1 fn1 fc1, .slice ea1 en1 ec1, .slice sa1 sn1 sc1, .slice ka1 kn1 kc1] 33)) := hB.alloc hB.size _
            have hrec := HI.out _ _ (GTree.below hBA _ _ htr)
            unfold geomC at hrec
            clear hc hcell hsz htr
            go_wp2_with fail
            refine hrec.mono ?_
            rintro en2 w2 ⟨x2, rfl, hB2⟩
            have hBB := hBA.trans (hB2.mono hBA.size)
            clear hrec r0 r1 r2 r3 r4 r5 r6 hB2
            go_wp2_with fail
            refine (cover_any _ _ _).mono ?_
            rintro en3 w3 ⟨⟨x3, rfl⟩, rfl⟩
            go_wp2_with fail
            go_roundg mm
            case measure => omega
            case rel => exact ⟨j + 1, _, by omega, rfl, rfl, hBB⟩
      · have h0' : (l != 0) = true := bne_iff_ne.2 h0
        clear h0
        go_enter Tryd.func34, Tryd.ntmps34
        go_wp2_with fail
        go_ret
        exact ⟨_, rfl, hB⟩
    · have h7' : (k != 7) = true := bne_iff_ne.2 h7
      clear h7
      go_enter Tryd.func34, Tryd.ntmps34
      go_wp2_with fail
      go_ret
      exact ⟨_, rfl, hB⟩

set_option maxRecDepth 100000 in
set_option maxHeartbeats 3200000 in
theorem good_tree : ∀ (D : Nat) (cs : Array Value) (w : World), GTree w D cs → Calls Tryd.prog 33 #[.agg cs] w (SomeBool w)
  | 0, _, _, h => h.elim
  | D + 1, cs, w, h => by
    have ih := good_tree D
    obtain ⟨k, l, q, fa, ea, sa, ka, fn, fc, en, ec, sn, sc, kn, kc, e, m, ee, rfl, hlen, hl64, hie, hls, hk⟩ := h
    by_cases h7 : k ≠ 7
    · have g9 : (strideI l).toNat ≤ 9223372036854775807 := by
        have := hl64.2
        unfold strideI
        split
        · omega
        · split
          · omega
          · split <;> omega
      obtain ⟨u1, u2, u3, u4⟩ := hlen
      unfold maxLen at u1 u2 u3 u4
      exact (good_plain k l q fa ea sa ka fn fc en ec sn sc kn kc (strideI l).toNat e m ee w h7 (strideI_nat l) hie hls (by omega) (by omega) (by omega) (by omega) g9).mono (fun _ _ ⟨b, h1, _, h2⟩ => ⟨b, h1, h2⟩)
    · obtain rfl : k = 7 := by omega
      obtain ⟨hbx, hB⟩ := boxed w 7 l q (.slice fa fn fc) (.slice ea en ec) (.slice sa sn sc) (.slice ka kn kc)
      have HK := Lib.hid hk
      have HI := Lib.hid ih
      have b2 : (kn : Int) ≤ 9223372036854775807 := by have := hlen.2.2.2; unfold maxLen at this; omega
      have hst := fun w' => stride_any l w'
      clear hk ih hlen hie hls h7
      unfold geomC
      go_enter Tryd.func33, Tryd.ntmps33
      go_wp2_with fail
      refine (hst _).mono ?_
      rintro en1 w1 ⟨rfl, rfl⟩
      clear hst
      go_wp2_with fail
      go_loopg [22] kn (fun mm v22 wx => ∃ j : Nat, j + mm = kn ∧ v22 = .int .i64 (j : Int) ∧ Below w.heap.size w wx ∧ Box wx w.heap.size 33 (geomC 7 l q (.slice fa fn fc) (.slice ea en ec) (.slice sa sn sc) (.slice ka kn kc)))
      case atStart => exact ⟨0, by omega, rfl, hB, hbx⟩
      case round =>
        clear hB hbx
        obtain ⟨j, hj, rfl, hB, hbx⟩ := hrel
        cases gk with
        | zero =>
          have hjn : j = kn := by omega
          subst hjn
          obtain ⟨c0, c1, c2, c3, c4, c5, c6⟩ := hbx.cells7
          by_cases h0 : 0 ≤ l
          · go_wp2_with fail
            go_ret
            exact ⟨_, rfl, hB⟩
          · go_wp2_with fail
            go_ret
            exact ⟨_, rfl, hB⟩
        | succ mm =>
          have hlt : (j : Int) < (kn : Int) := by omega
          have hjI : (j : Int) ≤ 9223372036854775806 := by omega
          obtain ⟨blk, off, rfl, hc⟩ := HK.out (by omega)
          obtain ⟨cs', hcell, hsz, htr⟩ := hc j (by omega)
          obtain ⟨D', rfl⟩ : ∃ D', D = D' + 1 := by cases D with | zero => exact htr.elim | succ D => exact ⟨D, rfl⟩
          have htr0 := htr
          obtain ⟨k1, l1, q1, fa1, ea1, sa1, ka1, fn1, fc1, en1, ec1, sn1, sc1, kn1, kc1, _, _, _, hcs, _⟩ := htr0
          subst hcs
          obtain ⟨r0, r1, r2, r3, r4, r5, r6⟩ := kid_cells hB hcell
          clear hc hcell hsz
          obtain ⟨hb5, hBw⟩ := boxed wr k1 l1 q1 (.slice fa1 fn1 fc1) (.slice ea1 en1 ec1) (.slice sa1 sn1 sc1) (.slice ka1 kn1 kc1)
          have hBD := (hB.trans (hBw.mono hB.size)).drew
          have hb5D := hb5.below (Below.refl _ _).drew
          have hbxD := (hbx.below hBw).below (Below.refl _ _).drew
          have hrec := HI.out _ _ (GTree.below hBD _ _ htr)
          have HTR := Lib.hid htr
          clear hb5 hBw htr
          unfold geomC at hrec
          go_wp2_with fail
          refine wp_region_any (by kernel_rfl) ?_
          change wpAny _ _ _ _ _ _ _ (World.drew _)
          refine wpAny_ready (rs := [0]) (by kernel_rfl) (by simp) ?_
          refine AllReady.cons rfl (fun K hK => ?_) AllReady.nil
          go_simp
          refine hK _ _ ?_
          clear hK K
          refine wpAny_ready (rs := [1]) (by kernel_rfl) (by simp) ?_
          refine AllReady.cons rfl (fun K hK => ?_) AllReady.nil
          go_simp
          refine hrec.mono ?_
          rintro en2 w2 ⟨b, rfl, hB2⟩
          have hBB := hBD.trans (hB2.mono hBD.size)
          have hb52 := hb5D.below hB2
          have hbx2 := hbxD.below hB2
          have hlay := layoutOf_tree _ _ w2 (GTree.below hBB _ _ HTR.out)
          unfold geomC at hlay
          clear hrec r0 r1 r2 r3 r4 r5 r6 hB2 hb5D hbxD hBD hB hbx
          obtain ⟨g0, g1, g2, g3, g4, g5, g6⟩ := hb52.cells7
          obtain ⟨c0, c1, c2, c3, c4, c5, c6⟩ := hbx2.cells7
          cases b with
          | false =>
            clear hlay
            go_wp2_with fail
            first | (refine hK _ _ ?_; clear hK K) | skip
            refine wpAny_ready (rs := [2]) (by kernel_rfl) (by simp) ?_
            refine AllReady.cons rfl (fun K hK => ?_) AllReady.nil
            go_simp
            refine hK _ _ ?_
            clear hK K
            refine wpAny_ready (rs := [3]) (by kernel_rfl) (by simp) ?_
            refine AllReady.cons rfl (fun K hK => ?_) AllReady.nil
            go_simp
            refine hK _ _ ?_
            clear hK K
            refine wpAny_take (i := 4) rfl (by kernel_rfl) (by kernel_rfl) (by kernel_rfl) (fun _ _ _ h => h) (Or.inr ⟨?_, rfl⟩) ?_
            · go_simp
              all_goals simp [undef]
            refine wpAny_take (i := 5) rfl (by kernel_rfl) (by kernel_rfl) (by kernel_rfl) (fun _ _ _ h => h) (Or.inr ⟨?_, rfl⟩) ?_
            · go_simp
              all_goals simp [undef]
            refine wpAny_take (i := 6) rfl (by kernel_rfl) (by kernel_rfl) (by kernel_rfl) (fun _ _ _ h => h) (Or.inr ⟨?_, rfl⟩) ?_
            · go_simp
              all_goals simp [undef]
            refine wpAny_take (i := 7) rfl (by kernel_rfl) (by kernel_rfl) (by kernel_rfl) (fun _ _ _ h => h) (Or.inr ⟨?_, rfl⟩) ?_
            · go_simp
              all_goals simp [undef]
            refine wpAny_take (i := 8) rfl (by kernel_rfl) (by kernel_rfl) (by kernel_rfl) (fun _ _ _ h => h) (Or.inr ⟨?_, rfl⟩) ?_
            · go_simp
              all_goals simp [undef]
            refine wpAny_take (i := 9) rfl (by kernel_rfl) (by kernel_rfl) (by kernel_rfl) (fun _ _ _ h => h) (Or.inr ⟨?_, rfl⟩) ?_
            · go_simp
              all_goals simp [undef]
            refine wpAny_take (i := 10) rfl (by kernel_rfl) (by kernel_rfl) (by kernel_rfl) (fun _ _ _ h => h) (Or.inr ⟨?_, rfl⟩) ?_
            · go_simp
              all_goals simp [undef]
            refine wpAny_take (i := 11) rfl (by kernel_rfl) (by kernel_rfl) (by kernel_rfl) (fun _ _ _ h => h) (Or.inr ⟨?_, rfl⟩) ?_
            · go_simp
              all_goals simp [undef]
            refine wpAny_take (i := 12) rfl (by kernel_rfl) (by kernel_rfl) (by kernel_rfl) (fun _ _ _ h => h) (Or.inr ⟨?_, rfl⟩) ?_
            · go_simp
              all_goals simp [undef]
            refine wpAny_take (i := 13) rfl (by kernel_rfl) (by kernel_rfl) (by kernel_rfl) (fun _ _ _ h => h) (Or.inr ⟨?_, rfl⟩) ?_
            · go_simp
              all_goals simp [undef]
            refine wpAny_ready (rs := [14]) (by kernel_rfl) (by simp) ?_
            refine AllReady.cons rfl (fun K hK => ?_) AllReady.nil
            go_simp
            refine hK _ _ ?_
            clear hK K
            refine wpAny_done (by kernel_rfl) ?_ _
            go_wp2_with fail
            go_ret
            exact ⟨_, rfl, hBB⟩
          | true =>
            by_cases h0 : l = 0
            · subst h0
              clear hlay
              go_wp2_with fail
              first | (refine hK _ _ ?_; clear hK K) | skip
              refine wpAny_ready (rs := [2]) (by kernel_rfl) (by simp) ?_
              refine AllReady.cons rfl (fun K hK => ?_) AllReady.nil
              go_simp
              refine hK _ _ ?_
              clear hK K
              refine wpAny_ready (rs := [3]) (by kernel_rfl) (by simp) ?_
              refine AllReady.cons rfl (fun K hK => ?_) AllReady.nil
              go_simp
              refine hK _ _ ?_
              clear hK K
              refine wpAny_ready (rs := [4]) (by kernel_rfl) (by simp) ?_
              refine AllReady.cons rfl (fun K hK => ?_) AllReady.nil
              go_simp
              refine hK _ _ ?_
              clear hK K
              refine wpAny_ready (rs := [5]) (by kernel_rfl) (by simp) ?_
              refine AllReady.cons rfl (fun K hK => ?_) AllReady.nil
              go_simp
              refine hK _ _ ?_
              clear hK K
              refine wpAny_ready (rs := [6]) (by kernel_rfl) (by simp) ?_
              refine AllReady.cons rfl (fun K hK => ?_) AllReady.nil
              go_simp
              refine hK _ _ ?_
              clear hK K
              refine wpAny_ready (rs := [7]) (by kernel_rfl) (by simp) ?_
              refine AllReady.cons rfl (fun K hK => ?_) AllReady.nil
              go_simp
              refine hK _ _ ?_
              clear hK K
              refine wpAny_take (i := 8) rfl (by kernel_rfl) (by kernel_rfl) (by kernel_rfl) (fun _ _ _ h => h) (Or.inr ⟨?_, rfl⟩) ?_
              · go_simp
                all_goals simp [undef]
              refine wpAny_take (i := 9) rfl (by kernel_rfl) (by kernel_rfl) (by kernel_rfl) (fun _ _ _ h => h) (Or.inr ⟨?_, rfl⟩) ?_
              · go_simp
                all_goals simp [undef]
              refine wpAny_take (i := 10) rfl (by kernel_rfl) (by kernel_rfl) (by kernel_rfl) (fun _ _ _ h => h) (Or.inr ⟨?_, rfl⟩) ?_
              · go_simp
                all_goals simp [undef]
              refine wpAny_take (i := 11) rfl (by kernel_rfl) (by kernel_rfl) (by kernel_rfl) (fun _ _ _ h => h) (Or.inr ⟨?_, rfl⟩) ?_
              · go_simp
                all_goals simp [undef]
              refine wpAny_take (i := 12) rfl (by kernel_rfl) (by kernel_rfl) (by kernel_rfl) (fun _ _ _ h => h) (Or.inr ⟨?_, rfl⟩) ?_
              · go_simp
                all_goals simp [undef]
              refine wpAny_ready (rs := [13]) (by kernel_rfl) (by simp) ?_
              refine AllReady.cons rfl (fun K hK => ?_) AllReady.nil
              go_simp
              refine hK _ _ ?_
              clear hK K
              refine wpAny_ready (rs := [14]) (by kernel_rfl) (by simp) ?_
              refine AllReady.cons rfl (fun K hK => ?_) AllReady.nil
              go_simp
              refine hK _ _ ?_
              clear hK K
              refine wpAny_done (by kernel_rfl) ?_ _
              go_wp2_with fail
              go_roundg mm
              case measure => omega
              case rel => exact ⟨j + 1, by omega, rfl, hBB, hbx2⟩
            · have h0i : (l != 0) = true := bne_iff_ne.2 h0
              clear h0
              go_wp2_with fail
              first | (refine hK _ _ ?_; clear hK K) | skip
              refine wpAny_ready (rs := [2]) (by kernel_rfl) (by simp) ?_
              refine AllReady.cons rfl (fun K hK => ?_) AllReady.nil
              go_simp
              refine hK _ _ ?_
              clear hK K
              refine wpAny_ready (rs := [3]) (by kernel_rfl) (by simp) ?_
              refine AllReady.cons rfl (fun K hK => ?_) AllReady.nil
              go_simp
              refine hK _ _ ?_
              clear hK K
              refine wpAny_ready (rs := [4]) (by kernel_rfl) (by simp) ?_
              refine AllReady.cons rfl (fun K hK => ?_) AllReady.nil
              go_simp
              refine hK _ _ ?_
              clear hK K
              refine wpAny_ready (rs := [5]) (by kernel_rfl) (by simp) ?_
              refine AllReady.cons rfl (fun K hK => ?_) AllReady.nil
              go_simp
              refine hK _ _ ?_
              clear hK K
              refine wpAny_ready (rs := [6]) (by kernel_rfl) (by simp) ?_
              refine AllReady.cons rfl (fun K hK => ?_) AllReady.nil
              go_simp
              refine hK _ _ ?_
              clear hK K
              refine wpAny_ready (rs := [7]) (by kernel_rfl) (by simp) ?_
              refine AllReady.cons rfl (fun K hK => ?_) AllReady.nil
              go_simp
              refine hK _ _ ?_
              clear hK K
              refine wpAny_take (i := 10) (v := .pointer (some ⟨w.heap.size, 1, none⟩)) rfl (by kernel_rfl) (by kernel_rfl) (by kernel_rfl) (fun _ _ _ h => h) (Or.inl ⟨by rfl, fun wq => ?_⟩) ?_
              · go_simp
              refine wpAny_ready (rs := [8, 11]) (by kernel_rfl) (by simp) ?_
              refine AllReady.cons rfl (fun K hK => ?_) (AllReady.cons rfl (fun K hK => ?_) AllReady.nil)
              · go_simp
                refine hK _ _ ?_
                clear hK K
                refine wpAny_ready (rs := [9, 11]) (by kernel_rfl) (by simp) ?_
                refine AllReady.cons rfl (fun K hK => ?_) (AllReady.cons rfl (fun K hK => ?_) AllReady.nil)
                · go_simp
                  refine hlay.mono ?_
                  rintro en3 w3 ⟨x3, rfl, hB3⟩
                  have hB33 := hBB.trans (hB3.mono hBB.size)
                  have hbx3 := hbx2.below hB3
                  obtain ⟨d0, d1, d2, d3, d4, d5, d6⟩ := hbx3.cells7
                  clear g0 g1 g2 g3 g4 g5 g6 c0 c1 c2 c3 c4 c5 c6 hb52 hbx2 hB3 hlay
                  go_wp2_with fail
                  first | (refine hK _ _ ?_; clear hK K) | skip
                  refine wpAny_ready (rs := [11]) (by kernel_rfl) (by simp) ?_
                  refine AllReady.cons rfl (fun K hK => ?_) AllReady.nil
                  go_simp
                  refine hK _ _ ?_
                  clear hK K
                  refine wpAny_ready (rs := [12]) (by kernel_rfl) (by simp) ?_
                  refine AllReady.cons rfl (fun K hK => ?_) AllReady.nil
                  go_simp
                  refine hK _ _ ?_
                  clear hK K
                  refine wpAny_ready (rs := [13]) (by kernel_rfl) (by simp) ?_
                  refine AllReady.cons rfl (fun K hK => ?_) AllReady.nil
                  go_simp
                  refine hK _ _ ?_
                  clear hK K
                  refine wpAny_ready (rs := [14]) (by kernel_rfl) (by simp) ?_
                  refine AllReady.cons rfl (fun K hK => ?_) AllReady.nil
                  go_simp
                  refine hK _ _ ?_
                  clear hK K
                  refine wpAny_done (by kernel_rfl) ?_ _
                  by_cases hx : x3 = l
                  · have hxi : (x3 != l) = false := by rw [hx]; exact bne_self_eq_false l
                    clear hx
                    go_wp2_with fail
                    go_roundg mm
                    case measure => omega
                    case rel => exact ⟨j + 1, by omega, rfl, hB33, hbx3⟩
                  · have hxi : (x3 != l) = true := bne_iff_ne.2 hx
                    clear hx
                    go_wp2_with fail
                    go_ret
                    exact ⟨_, rfl, hB33⟩
                · go_simp
                  refine hK _ _ ?_
                  clear hK K
                  refine wpAny_ready (rs := [9]) (by kernel_rfl) (by simp) ?_
                  refine AllReady.cons rfl (fun K hK => ?_) AllReady.nil
                  go_simp
                  refine hlay.mono ?_
                  rintro en3 w3 ⟨x3, rfl, hB3⟩
                  have hB33 := hBB.trans (hB3.mono hBB.size)
                  have hbx3 := hbx2.below hB3
                  obtain ⟨d0, d1, d2, d3, d4, d5, d6⟩ := hbx3.cells7
                  clear g0 g1 g2 g3 g4 g5 g6 c0 c1 c2 c3 c4 c5 c6 hb52 hbx2 hB3 hlay
                  go_wp2_with fail
                  first | (refine hK _ _ ?_; clear hK K) | skip
                  refine wpAny_ready (rs := [12]) (by kernel_rfl) (by simp) ?_
                  refine AllReady.cons rfl (fun K hK => ?_) AllReady.nil
                  go_simp
                  refine hK _ _ ?_
                  clear hK K
                  refine wpAny_ready (rs := [13]) (by kernel_rfl) (by simp) ?_
                  refine AllReady.cons rfl (fun K hK => ?_) AllReady.nil
                  go_simp
                  refine hK _ _ ?_
                  clear hK K
                  refine wpAny_ready (rs := [14]) (by kernel_rfl) (by simp) ?_
                  refine AllReady.cons rfl (fun K hK => ?_) AllReady.nil
                  go_simp
                  refine hK _ _ ?_
                  clear hK K
                  refine wpAny_done (by kernel_rfl) ?_ _
                  by_cases hx : x3 = l
                  · have hxi : (x3 != l) = false := by rw [hx]; exact bne_self_eq_false l
                    clear hx
                    go_wp2_with fail
                    go_roundg mm
                    case measure => omega
                    case rel => exact ⟨j + 1, by omega, rfl, hB33, hbx3⟩
                  · have hxi : (x3 != l) = true := bne_iff_ne.2 hx
                    clear hx
                    go_wp2_with fail
                    go_ret
                    exact ⟨_, rfl, hB33⟩
              · go_simp
                refine hK _ _ ?_
                clear hK K
                refine wpAny_ready (rs := [8]) (by kernel_rfl) (by simp) ?_
                refine AllReady.cons rfl (fun K hK => ?_) AllReady.nil
                go_simp
                refine hK _ _ ?_
                clear hK K
                refine wpAny_ready (rs := [9]) (by kernel_rfl) (by simp) ?_
                refine AllReady.cons rfl (fun K hK => ?_) AllReady.nil
                go_simp
                refine hlay.mono ?_
                rintro en3 w3 ⟨x3, rfl, hB3⟩
                have hB33 := hBB.trans (hB3.mono hBB.size)
                have hbx3 := hbx2.below hB3
                obtain ⟨d0, d1, d2, d3, d4, d5, d6⟩ := hbx3.cells7
                clear g0 g1 g2 g3 g4 g5 g6 c0 c1 c2 c3 c4 c5 c6 hb52 hbx2 hB3 hlay
                go_wp2_with fail
                first | (refine hK _ _ ?_; clear hK K) | skip
                refine wpAny_ready (rs := [12]) (by kernel_rfl) (by simp) ?_
                refine AllReady.cons rfl (fun K hK => ?_) AllReady.nil
                go_simp
                refine hK _ _ ?_
                clear hK K
                refine wpAny_ready (rs := [13]) (by kernel_rfl) (by simp) ?_
                refine AllReady.cons rfl (fun K hK => ?_) AllReady.nil
                go_simp
                refine hK _ _ ?_
                clear hK K
                refine wpAny_ready (rs := [14]) (by kernel_rfl) (by simp) ?_
                refine AllReady.cons rfl (fun K hK => ?_) AllReady.nil
                go_simp
                refine hK _ _ ?_
                clear hK K
                refine wpAny_done (by kernel_rfl) ?_ _
                by_cases hx : x3 = l
                · have hxi : (x3 != l) = false := by rw [hx]; exact bne_self_eq_false l
                  clear hx
                  go_wp2_with fail
                  go_roundg mm
                  case measure => omega
                  case rel => exact ⟨j + 1, by omega, rfl, hB33, hbx3⟩
                · have hxi : (x3 != l) = true := bne_iff_ne.2 hx
                  clear hx
                  go_wp2_with fail
                  go_ret
                  exact ⟨_, rfl, hB33⟩
end Go.Proofs.YtodihpaabkplhaaDoor
