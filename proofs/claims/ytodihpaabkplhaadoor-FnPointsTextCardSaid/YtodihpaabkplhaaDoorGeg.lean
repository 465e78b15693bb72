/- gGood of one geometry without parts; fRow, fRows, fRowss. -/
import Derived.Test.YtodihpaabkplhaaDoorGef
import Derived.Deep.RegionWith
import Derived.Deep.RegionHeld3
namespace Go.Proofs.YtodihpaabkplhaaDoor
open Go.RowKit

theorem strideI_nat (l : Int) : strideI l = ((strideI l).toNat : Int) := by
  have : 0 ≤ strideI l := by
    unfold strideI
    split
    · omega
    · split
      · omega
      · split <;> omega
  omega
theorem strideI_le (l : Int) (h : l ≤ 9) : (strideI l).toNat ≤ 9 := by
  unfold strideI
  split
  · decide
  · split
    · decide
    · split
      · decide
      · omega

/-- What a one-element list of geometries without parts tells where it is good. -/
def GGoodOk (k l : Int) (fn en sn : Nat) (e : Nat → Int) (m : Nat → Nat) (ee : Nat → Nat → Int) (b : Bool) : Prop :=
  b = true → 1 + fn + en + sumM m sn + sn ≤ 2000 ∧ 1 ≤ l ∧ l ≤ 9 ∧ GoodFacts k fn en sn 0 (strideI l).toNat e m ee

set_option maxRecDepth 100000 in
set_option maxHeartbeats 1600000 in
theorem gGood_flat {ka : Option Addr} {kc : Nat} (gb : Nat) (k l q : Int) (fa ea sa : Option Addr) (fn fc en ec sn sc : Nat) (e : Nat → Int) (m : Nat → Nat) (ee : Nat → Nat → Int) (w : World) (hk : k ≠ 7) (he : IRow w ea en e) (hs : LRow w sa sn m ee)
    (hsz : 1 + fn + en + sumM m sn + sn ≤ 9223372036854770000)
    (hbx : Box w gb 33 (geomC k l q (.slice fa fn fc) (.slice ea en ec) (.slice sa sn sc) (.slice ka 0 kc))) :
    Calls Tryd.prog 15 #[.slice (some ⟨gb, 0, none⟩) 1 1] w fun en' w' => ∃ b, en' = .returned (.bool b) ∧ GGoodOk k l fn en sn e m ee b ∧ Below w.heap.size w w' := by
  have hsm := gSmall_flat (ka := ka) (kc := kc) gb k l q fa ea sa fn fc en ec sn sc m ee w hk hs hsz hbx
  obtain ⟨s, hs1⟩ : ∃ s, (strideI l).toNat = s := ⟨_, rfl⟩
  have hgd : ∀ w', IRow w' ea en e → LRow w' sa sn m ee → s ≤ 9 → Calls _ _ _ _ _ := fun w' he' hs' h9 => good_plain k l q fa ea sa ka fn fc en ec sn sc 0 kc s e m ee w' hk (by rw [strideI_nat, hs1]) he' hs' (by omega) (by omega) (by omega) (by omega) (by omega)
  have HE := Lib.hid he
  have HS := Lib.hid hs
  have HZ := Lib.hid hsz
  have HB := Lib.hid hbx
  have H1 := Lib.hid hs1
  have HK := Lib.hid hk
  clear he hs hsz hbx hs1 hk
  unfold geomV at hgd
  go_enter Tryd.func15, Tryd.ntmps15
  go_wp2_with fail
  refine hsm.mono ?_
  rintro en1 w1 ⟨b, rfl, hok, hB1⟩
  clear hsm
  cases b with
  | false =>
    clear hok hgd
    go_wp2_with fail
    go_ret
    exact ⟨_, rfl, (fun h => by cases h), hB1⟩
  | true =>
    obtain ⟨o1, o2, o3⟩ := hok rfl
    have h9 : s ≤ 9 := by rw [← H1.out]; exact strideI_le l o3
    have O1 := Lib.hid o1
    clear hok o1
    have hbx1 := HB.out.below hB1
    obtain ⟨c0, c1, c2, c3, c4, c5, c6⟩ := hbx1.cells7
    obtain ⟨hbn, hBn⟩ := boxed w1 k l q (.slice fa fn fc) (.slice ea en ec) (.slice sa sn sc) (.slice ka 0 kc)
    have hgd1 := hgd _ ((HE.out.below hB1).below hBn) ((HS.out.below hB1).below hBn) h9
    clear hgd hbx1 h9
    go_wp2_with fail
    go_loopg [10] 1 (fun mm v10 wr => (mm = 1 ∧ v10 = .int .i64 0 ∧ wr = w1 ∨ mm = 0 ∧ v10 = .int .i64 1 ∧ GoodFacts k fn en sn 0 s e m ee ∧ Below w.heap.size w wr))
    case atStart => exact Or.inl ⟨rfl, rfl, rfl⟩
    case round =>
      rcases hrel with h | h
      · obtain ⟨rfl, rfl, rfl⟩ := h
        go_wp2_with fail
        refine hgd1.mono ?_
        rintro en2 w2 ⟨b, rfl, hok, hB2⟩
        clear hgd1 c0 c1 c2 c3 c4 c5 c6 hbn
        have hBB := hB1.trans ((hBn.trans (hB2.mono hBn.size)).mono hB1.size)
        clear hB2 hBn
        cases b with
        | false =>
          clear hok
          go_wp2_with fail
          go_ret
          exact ⟨_, rfl, (fun h => by cases h), hBB⟩
        | true =>
          have hok2 := hok rfl
          clear hok
          go_wp2_with fail
          go_roundg 0
          case measure => omega
          case rel => exact Or.inr ⟨rfl, rfl, hok2, hBB⟩
      · obtain ⟨rfl, rfl, hok, hB⟩ := h
        clear hgd1 c0 c1 c2 c3 c4 c5 c6 hbn hBn
        go_wp2_with fail
        go_ret
        exact ⟨_, rfl, fun _ => ⟨O1.out, o2, o3, by rw [H1.out]; exact hok⟩, hB⟩

/-- What fRow, fRows and fRowss tell. -/
def FRowOk (k s : Int) (fn en sn : Nat) (e : Nat → Int) (m : Nat → Nat) (ee : Nat → Nat → Int) (fv ev sv g : Value) (b : Bool) : Prop :=
  b = true → 2 ≤ s ∧ s ≤ 9 ∧ g = geomV k (layI s) 0 fv ev sv (.slice none 0 0) ∧ 1 + fn + en + sumM m sn + sn ≤ 2000 ∧ GoodFacts k fn en sn 0 s.toNat e m ee

theorem Box.drew {w : World} {b : Nat} {T : TypeId} {cs : Array Value} (h : Box w b T cs) : Box w.drew b T cs := h
def zeroC : Array Value := geomC 0 0 0 (.slice none 0 0) (.slice none 0 0) (.slice none 0 0) (.slice none 0 0)
theorem Box.frozen {w : World} {b : Nat} {T : TypeId} {cs : Array Value} (h : Box w b T cs) (i : Nat) : w.frozen? ⟨b, i, none⟩ = false := Lib.frozen_of_heap h i
theorem Box.frozen7 {w : World} {b : Nat} {T : TypeId} {cs : Array Value} (h : Box w b T cs) : w.frozen? ⟨b, 0, none⟩ = false ∧ w.frozen? ⟨b, 1, none⟩ = false ∧ w.frozen? ⟨b, 2, none⟩ = false ∧ w.frozen? ⟨b, 3, none⟩ = false ∧ w.frozen? ⟨b, 4, none⟩ = false ∧ w.frozen? ⟨b, 5, none⟩ = false ∧ w.frozen? ⟨b, 6, none⟩ = false :=
  ⟨h.frozen 0, h.frozen 1, h.frozen 2, h.frozen 3, h.frozen 4, h.frozen 5, h.frozen 6⟩
theorem after_box {W w3 : World} {b : Nat} {T : TypeId} {cs : Array Value} {o : Obj} (h : Box W b T cs) (hB : Below (W.alloc o).drew.heap.size (W.alloc o).drew w3) : Box w3 b T cs :=
  ((h.below ((Below.refl _ _).alloc (Nat.le_refl _) _) : Box (W.alloc o) b T cs).drew).below hB
theorem frozen_kept {W w : World} (hb : Below W.heap.size W w) {a : Addr} {v : Value} (h : W.cell? a = some v) (hf : W.frozen? a = false) : w.frozen? a = false := by
  rw [hb.frozen (World.block_lt_of_cell? W a h)]
  exact hf
theorem frozen_alloc {W : World} {a : Addr} {v : Value} {o : Obj} (h : W.cell? a = some v) (hf : W.frozen? a = false) : (W.alloc o).frozen? a = false :=
  frozen_kept ((Below.refl _ _).alloc (Nat.le_refl _) _) h hf
theorem frozen_alloc_drew {W : World} {a : Addr} {v : Value} {o : Obj} (h : W.cell? a = some v) (hf : W.frozen? a = false) : (W.alloc o).drew.frozen? a = false := frozen_alloc h hf
/-- Two structs laid one behind the other. -/
theorem two_boxes (w : World) (a b : Array Value) : ∃ W2, (w.alloc (.cells a 33)).alloc (.cells b 33) = W2 ∧ Box W2 w.heap.size 33 a ∧ Box W2 (w.heap.size + 1) 33 b ∧ Below w.heap.size w W2 ∧ w.heap.size + 2 ≤ W2.heap.size := by
  have hs : (w.alloc (.cells a 33)).heap.size = w.heap.size + 1 := by show (w.heap.push _).size = _; simp
  have h1 := Box.new w 33 a
  have h2 := Box.new (w.alloc (.cells a 33)) 33 b
  have hb : Below (w.alloc (.cells a 33)).heap.size (w.alloc (.cells a 33)) ((w.alloc (.cells a 33)).alloc (.cells b 33)) := (Below.refl _ _).alloc (Nat.le_refl _) _
  rw [hs] at h2
  refine ⟨_, rfl, h1.below hb, h2, ((Below.refl _ _).alloc (Nat.le_refl _) _).alloc (by omega) _, ?_⟩
  show _ ≤ ((w.alloc (.cells a 33)).heap.push _).size
  simp

-- FROWS
theorem after_below {W W2 w3 : World} {o : Obj} (h : Below W.heap.size W W2) (hB : Below (W2.alloc o).drew.heap.size (W2.alloc o).drew w3) : Below W.heap.size W w3 := by
  have h1 : Below W.heap.size W (W2.alloc o).drew := (h.alloc h.size o).drew
  exact h1.trans (hB.mono h1.size)
theorem frow_of {k s : Int} {fn en sn : Nat} {e : Nat → Int} {m : Nat → Nat} {ee : Nat → Nat → Int} {fv ev sv : Value} {b : Bool} (h : GGoodOk k (layI s) fn en sn e m ee b) (hs : (decide (2 ≤ s) && decide (s ≤ 9)) = true) :
    FRowOk k s fn en sn e m ee fv ev sv (.agg (geomC k (layI s) 0 fv ev sv (.slice none 0 0))) b := by
  intro hb
  obtain ⟨h1, _, _, h4⟩ := h hb
  rw [Bool.and_eq_true, decide_eq_true_eq, decide_eq_true_eq] at hs
  rw [strideI_lay s hs.1] at h4
  exact ⟨hs.1, hs.2, rfl, h1, h4⟩

set_option maxRecDepth 100000 in
set_option maxHeartbeats 1600000 in
theorem fRow_any (fa : Option Addr) (fn fc : Nat) (s : Int) (w : World) (hn : fn ≤ 2147483647) :
    Calls Tryd.prog 11 #[.slice fa fn fc, .int .i64 s] w fun en' w' => ∃ (k' l' : Int) (a1 : Option Addr) (n1 e1 : Nat) (a2 : Option Addr) (n2 e2 : Nat) (a3 : Option Addr) (n3 e3 : Nat) (b : Bool), en' = .returned (.tuple #[.agg #[.int .i64 k', .int .i64 l', .int .i64 0, .slice a1 n1 e1, .slice a2 n2 e2, .slice a3 n3 e3, .slice none 0 0], .bool b]) ∧ FRowOk 8 s fn 0 0 (fun _ => 0) (fun _ => 0) (fun _ _ => 0) (.slice fa fn fc) (.slice none 0 0) (.slice none 0 0) (geomV k' l' 0 (.slice a1 n1 e1) (.slice a2 n2 e2) (.slice a3 n3 e3) (.slice none 0 0)) b ∧ Below w.heap.size w w' := by
  have hfs := fun w' => fStride_any s w'
  have hfl := fun w' => fLayout_any s w'
  obtain ⟨W2, hW2, hz, hg, hB2, hs2⟩ := two_boxes w zeroC (geomC 8 (layI s) 0 (.slice fa fn fc) (.slice none 0 0) (.slice none 0 0) (.slice none 0 0))
  have hB2' : Below w.heap.size w (W2.alloc (.cells #[.int .i64 8, .int .i64 (layI s), .int .i64 0, .slice fa fn fc, .slice none 0 0, .slice none 0 0, .slice none 0 0] 33)).drew := (hB2.alloc hB2.size _).drew
  have hgd := gGood_flat W2.heap.size 8 (layI s) 0 fa none none fn fc 0 0 0 0 (fun _ => 0) (fun _ => 0) (fun _ _ => 0) (W2.alloc (.cells #[.int .i64 8, .int .i64 (layI s), .int .i64 0, .slice fa fn fc, .slice none 0 0, .slice none 0 0, .slice none 0 0] 33)).drew (by decide) (fun h => absurd h (by omega)) (fun h => absurd h (by omega)) (by simp only [sumM]; omega) (Box.drew (Box.new _ _ _))
  unfold zeroC geomC at hW2
  have HW2 := Lib.hid hW2
  obtain ⟨b, hb⟩ : ∃ b, (decide (2 ≤ s) && decide (s ≤ 9)) = b := ⟨_, rfl⟩
  rw [hb] at hfs
  have HB := Lib.hid hb
  clear hb hn hW2 hB2'
  cases b with
  | false =>
    clear hgd hfl hB2 hs2 HW2 hz hg
    have hB0 : Below w.heap.size w (w.alloc (.cells #[.int .i64 0, .int .i64 0, .int .i64 0, .slice none 0 0, .slice none 0 0, .slice none 0 0, .slice none 0 0] 33)) := (Below.refl _ _).alloc (Nat.le_refl _) _
    go_enter Tryd.func11, Tryd.ntmps11
    go_wp2_with fail
    refine (hfs _).mono ?_
    rintro en1 w1 ⟨rfl, rfl⟩
    go_wp2_with fail
    exact bodyPost_ret (v := .tuple #[.agg zeroC, .bool false]) (by simp [results, Tryd.results11, go_sem, zeroC, geomC]) rfl ⟨0, 0, none, 0, 0, none, 0, 0, none, 0, 0, false, rfl, (fun h => by cases h), hB0⟩
  | true =>
    go_enter Tryd.func11, Tryd.ntmps11
    go_wp2_with fail
    refine (hfs _).mono ?_
    rintro en1 w1 ⟨rfl, rfl⟩
    go_wp2_with fail
    refine (hfl _).mono ?_
    rintro en1 w1 ⟨rfl, rfl⟩
    clear hfs hfl
    go_wp2_with fail
    rw [HW2.out]
    clear HW2
    obtain ⟨c0, c1, c2, c3, c4, c5, c6⟩ := hg.cells7
    have q0 := fun o => cell_kept (((Below.refl _ _).alloc (Nat.le_refl _) o)) c0
    have q1 := fun o => cell_kept (((Below.refl _ _).alloc (Nat.le_refl _) o)) c1
    have q2 := fun o => cell_kept (((Below.refl _ _).alloc (Nat.le_refl _) o)) c2
    have q3 := fun o => cell_kept (((Below.refl _ _).alloc (Nat.le_refl _) o)) c3
    have q4 := fun o => cell_kept (((Below.refl _ _).alloc (Nat.le_refl _) o)) c4
    have q5 := fun o => cell_kept (((Below.refl _ _).alloc (Nat.le_refl _) o)) c5
    have q6 := fun o => cell_kept (((Below.refl _ _).alloc (Nat.le_refl _) o)) c6
    go_region_with (go_at_call 15; refine hgd.mono ?_; rintro en2 w3 ⟨b, rfl, hok, hB3⟩; obtain ⟨d0, d1, d2, d3, d4, d5, d6⟩ := (after_box hg hB3).cells7; obtain ⟨z0, z1, z2, z3, z4, z5, z6⟩ := (after_box hz hB3).cells7; obtain ⟨y0, y1, y2, y3, y4, y5, y6⟩ := (after_box hz hB3).frozen7)
    all_goals
      clear q0 q1 q2 q3 q4 q5 q6 hgd c0 c1 c2 c3 c4 c5 c6
      have hb3 : Below w.heap.size w w3 := after_below hB2 hB3
      have hb4 := ((((((hb3.setCell (p := ⟨w.heap.size, 0, none⟩) (Nat.le_refl _) (.int .i64 8)).setCell (p := ⟨w.heap.size, 1, none⟩) (Nat.le_refl _) (.int .i64 (layI s))).setCell (p := ⟨w.heap.size, 2, none⟩) (Nat.le_refl _) (.int .i64 0)).setCell (p := ⟨w.heap.size, 3, none⟩) (Nat.le_refl _) (.slice fa fn fc)).setCell (p := ⟨w.heap.size, 4, none⟩) (Nat.le_refl _) (.slice none 0 0)).setCell (p := ⟨w.heap.size, 5, none⟩) (Nat.le_refl _) (.slice none 0 0)).setCell (p := ⟨w.heap.size, 6, none⟩) (Nat.le_refl _) (.slice none 0 0)
      have hfr := frow_of (fv := (.slice fa fn fc)) (ev := (.slice none 0 0)) (sv := (.slice none 0 0)) hok HB.out
      clear hok hb3 hB3 hB2 hs2 hz hg
      go_wp2_with fail
      exact bodyPost_ret (v := .tuple #[.agg (geomC 8 (layI s) 0 (.slice fa fn fc) (.slice none 0 0) (.slice none 0 0) (.slice none 0 0)), .bool b]) (by simp [results, Tryd.results11, go_sem, z0, z1, z2, z3, z4, z5, z6, geomC]) rfl ⟨_, _, _, _, _, _, _, _, _, _, _, _, rfl, hfr, hb4⟩

set_option maxRecDepth 100000 in
set_option maxHeartbeats 1600000 in
theorem fRows_any (fa ea : Option Addr) (fn fc en ec : Nat) (e : Nat → Int) (s : Int) (w : World) (hn : fn ≤ 2147483647) (hen : en ≤ 2147483647) (he : IRow w ea en e) :
    Calls Tryd.prog 19 #[.slice fa fn fc, .slice ea en ec, .int .i64 s] w fun en' w' => ∃ (k' l' : Int) (a1 : Option Addr) (n1 e1 : Nat) (a2 : Option Addr) (n2 e2 : Nat) (a3 : Option Addr) (n3 e3 : Nat) (b : Bool), en' = .returned (.tuple #[.agg #[.int .i64 k', .int .i64 l', .int .i64 0, .slice a1 n1 e1, .slice a2 n2 e2, .slice a3 n3 e3, .slice none 0 0], .bool b]) ∧ FRowOk 3 s fn en 0 e (fun _ => 0) (fun _ _ => 0) (.slice fa fn fc) (.slice ea en ec) (.slice none 0 0) (geomV k' l' 0 (.slice a1 n1 e1) (.slice a2 n2 e2) (.slice a3 n3 e3) (.slice none 0 0)) b ∧ Below w.heap.size w w' := by
  have hfs := fun w' => fStride_any s w'
  have hfl := fun w' => fLayout_any s w'
  obtain ⟨W2, hW2, hz, hg, hB2, hs2⟩ := two_boxes w zeroC (geomC 3 (layI s) 0 (.slice fa fn fc) (.slice ea en ec) (.slice none 0 0) (.slice none 0 0))
  have hB2' : Below w.heap.size w (W2.alloc (.cells #[.int .i64 3, .int .i64 (layI s), .int .i64 0, .slice fa fn fc, .slice ea en ec, .slice none 0 0, .slice none 0 0] 33)).drew := (hB2.alloc hB2.size _).drew
  have hgd := gGood_flat W2.heap.size 3 (layI s) 0 fa ea none fn fc en ec 0 0 e (fun _ => 0) (fun _ _ => 0) (W2.alloc (.cells #[.int .i64 3, .int .i64 (layI s), .int .i64 0, .slice fa fn fc, .slice ea en ec, .slice none 0 0, .slice none 0 0] 33)).drew (by decide) (he.below hB2') (fun h => absurd h (by omega)) (by simp only [sumM]; omega) (Box.drew (Box.new _ _ _))
  unfold zeroC geomC at hW2
  have HW2 := Lib.hid hW2
  obtain ⟨b, hb⟩ : ∃ b, (decide (2 ≤ s) && decide (s ≤ 9)) = b := ⟨_, rfl⟩
  rw [hb] at hfs
  have HB := Lib.hid hb
  clear hb hn hen he hW2 hB2'
  cases b with
  | false =>
    clear hgd hfl hB2 hs2 HW2 hz hg
    have hB0 : Below w.heap.size w (w.alloc (.cells #[.int .i64 0, .int .i64 0, .int .i64 0, .slice none 0 0, .slice none 0 0, .slice none 0 0, .slice none 0 0] 33)) := (Below.refl _ _).alloc (Nat.le_refl _) _
    go_enter Tryd.func19, Tryd.ntmps19
    go_wp2_with fail
    refine (hfs _).mono ?_
    rintro en1 w1 ⟨rfl, rfl⟩
    go_wp2_with fail
    exact bodyPost_ret (v := .tuple #[.agg zeroC, .bool false]) (by simp [results, Tryd.results19, go_sem, zeroC, geomC]) rfl ⟨0, 0, none, 0, 0, none, 0, 0, none, 0, 0, false, rfl, (fun h => by cases h), hB0⟩
  | true =>
    go_enter Tryd.func19, Tryd.ntmps19
    go_wp2_with fail
    refine (hfs _).mono ?_
    rintro en1 w1 ⟨rfl, rfl⟩
    go_wp2_with fail
    refine (hfl _).mono ?_
    rintro en1 w1 ⟨rfl, rfl⟩
    clear hfs hfl
    go_wp2_with fail
    rw [HW2.out]
    clear HW2
    obtain ⟨c0, c1, c2, c3, c4, c5, c6⟩ := hg.cells7
    have q0 := fun o => cell_kept (((Below.refl _ _).alloc (Nat.le_refl _) o)) c0
    have q1 := fun o => cell_kept (((Below.refl _ _).alloc (Nat.le_refl _) o)) c1
    have q2 := fun o => cell_kept (((Below.refl _ _).alloc (Nat.le_refl _) o)) c2
    have q3 := fun o => cell_kept (((Below.refl _ _).alloc (Nat.le_refl _) o)) c3
    have q4 := fun o => cell_kept (((Below.refl _ _).alloc (Nat.le_refl _) o)) c4
    have q5 := fun o => cell_kept (((Below.refl _ _).alloc (Nat.le_refl _) o)) c5
    have q6 := fun o => cell_kept (((Below.refl _ _).alloc (Nat.le_refl _) o)) c6
    go_region_with (go_at_call 15; refine hgd.mono ?_; rintro en2 w3 ⟨b, rfl, hok, hB3⟩; obtain ⟨d0, d1, d2, d3, d4, d5, d6⟩ := (after_box hg hB3).cells7; obtain ⟨z0, z1, z2, z3, z4, z5, z6⟩ := (after_box hz hB3).cells7; obtain ⟨y0, y1, y2, y3, y4, y5, y6⟩ := (after_box hz hB3).frozen7)
    all_goals
      clear q0 q1 q2 q3 q4 q5 q6 hgd c0 c1 c2 c3 c4 c5 c6
      have hb3 : Below w.heap.size w w3 := after_below hB2 hB3
      have hb4 := ((((((hb3.setCell (p := ⟨w.heap.size, 0, none⟩) (Nat.le_refl _) (.int .i64 3)).setCell (p := ⟨w.heap.size, 1, none⟩) (Nat.le_refl _) (.int .i64 (layI s))).setCell (p := ⟨w.heap.size, 2, none⟩) (Nat.le_refl _) (.int .i64 0)).setCell (p := ⟨w.heap.size, 3, none⟩) (Nat.le_refl _) (.slice fa fn fc)).setCell (p := ⟨w.heap.size, 4, none⟩) (Nat.le_refl _) (.slice ea en ec)).setCell (p := ⟨w.heap.size, 5, none⟩) (Nat.le_refl _) (.slice none 0 0)).setCell (p := ⟨w.heap.size, 6, none⟩) (Nat.le_refl _) (.slice none 0 0)
      have hfr := frow_of (fv := (.slice fa fn fc)) (ev := (.slice ea en ec)) (sv := (.slice none 0 0)) hok HB.out
      clear hok hb3 hB3 hB2 hs2 hz hg
      go_wp2_with fail
      exact bodyPost_ret (v := .tuple #[.agg (geomC 3 (layI s) 0 (.slice fa fn fc) (.slice ea en ec) (.slice none 0 0) (.slice none 0 0)), .bool b]) (by simp [results, Tryd.results19, go_sem, z0, z1, z2, z3, z4, z5, z6, geomC]) rfl ⟨_, _, _, _, _, _, _, _, _, _, _, _, rfl, hfr, hb4⟩

set_option maxRecDepth 100000 in
set_option maxHeartbeats 1600000 in
theorem fRowss_any (fa sa : Option Addr) (fn fc sn sc : Nat) (m : Nat → Nat) (ee : Nat → Nat → Int) (s : Int) (w : World) (hsz : 1 + fn + 0 + sumM m sn + sn ≤ 9223372036854770000) (he : LRow w sa sn m ee) :
    Calls Tryd.prog 23 #[.slice fa fn fc, .slice sa sn sc, .int .i64 s] w fun en' w' => ∃ (k' l' : Int) (a1 : Option Addr) (n1 e1 : Nat) (a2 : Option Addr) (n2 e2 : Nat) (a3 : Option Addr) (n3 e3 : Nat) (b : Bool), en' = .returned (.tuple #[.agg #[.int .i64 k', .int .i64 l', .int .i64 0, .slice a1 n1 e1, .slice a2 n2 e2, .slice a3 n3 e3, .slice none 0 0], .bool b]) ∧ FRowOk 6 s fn 0 sn (fun _ => 0) m ee (.slice fa fn fc) (.slice none 0 0) (.slice sa sn sc) (geomV k' l' 0 (.slice a1 n1 e1) (.slice a2 n2 e2) (.slice a3 n3 e3) (.slice none 0 0)) b ∧ Below w.heap.size w w' := by
  have hfs := fun w' => fStride_any s w'
  have hfl := fun w' => fLayout_any s w'
  obtain ⟨W2, hW2, hz, hg, hB2, hs2⟩ := two_boxes w zeroC (geomC 6 (layI s) 0 (.slice fa fn fc) (.slice none 0 0) (.slice sa sn sc) (.slice none 0 0))
  have hB2' : Below w.heap.size w (W2.alloc (.cells #[.int .i64 6, .int .i64 (layI s), .int .i64 0, .slice fa fn fc, .slice none 0 0, .slice sa sn sc, .slice none 0 0] 33)).drew := (hB2.alloc hB2.size _).drew
  have hgd := gGood_flat W2.heap.size 6 (layI s) 0 fa none sa fn fc 0 0 sn sc (fun _ => 0) m ee (W2.alloc (.cells #[.int .i64 6, .int .i64 (layI s), .int .i64 0, .slice fa fn fc, .slice none 0 0, .slice sa sn sc, .slice none 0 0] 33)).drew (by decide) (fun h => absurd h (by omega)) (he.below hB2') hsz (Box.drew (Box.new _ _ _))
  unfold zeroC geomC at hW2
  have HW2 := Lib.hid hW2
  obtain ⟨b, hb⟩ : ∃ b, (decide (2 ≤ s) && decide (s ≤ 9)) = b := ⟨_, rfl⟩
  rw [hb] at hfs
  have HB := Lib.hid hb
  clear hb hsz he hW2 hB2'
  cases b with
  | false =>
    clear hgd hfl hB2 hs2 HW2 hz hg
    have hB0 : Below w.heap.size w (w.alloc (.cells #[.int .i64 0, .int .i64 0, .int .i64 0, .slice none 0 0, .slice none 0 0, .slice none 0 0, .slice none 0 0] 33)) := (Below.refl _ _).alloc (Nat.le_refl _) _
    go_enter Tryd.func23, Tryd.ntmps23
    go_wp2_with fail
    refine (hfs _).mono ?_
    rintro en1 w1 ⟨rfl, rfl⟩
    go_wp2_with fail
    exact bodyPost_ret (v := .tuple #[.agg zeroC, .bool false]) (by simp [results, Tryd.results23, go_sem, zeroC, geomC]) rfl ⟨0, 0, none, 0, 0, none, 0, 0, none, 0, 0, false, rfl, (fun h => by cases h), hB0⟩
  | true =>
    go_enter Tryd.func23, Tryd.ntmps23
    go_wp2_with fail
    refine (hfs _).mono ?_
    rintro en1 w1 ⟨rfl, rfl⟩
    go_wp2_with fail
    refine (hfl _).mono ?_
    rintro en1 w1 ⟨rfl, rfl⟩
    clear hfs hfl
    go_wp2_with fail
    rw [HW2.out]
    clear HW2
    obtain ⟨c0, c1, c2, c3, c4, c5, c6⟩ := hg.cells7
    have q0 := fun o => cell_kept (((Below.refl _ _).alloc (Nat.le_refl _) o)) c0
    have q1 := fun o => cell_kept (((Below.refl _ _).alloc (Nat.le_refl _) o)) c1
    have q2 := fun o => cell_kept (((Below.refl _ _).alloc (Nat.le_refl _) o)) c2
    have q3 := fun o => cell_kept (((Below.refl _ _).alloc (Nat.le_refl _) o)) c3
    have q4 := fun o => cell_kept (((Below.refl _ _).alloc (Nat.le_refl _) o)) c4
    have q5 := fun o => cell_kept (((Below.refl _ _).alloc (Nat.le_refl _) o)) c5
    have q6 := fun o => cell_kept (((Below.refl _ _).alloc (Nat.le_refl _) o)) c6
    go_region_with (go_at_call 15; refine hgd.mono ?_; rintro en2 w3 ⟨b, rfl, hok, hB3⟩; obtain ⟨d0, d1, d2, d3, d4, d5, d6⟩ := (after_box hg hB3).cells7; obtain ⟨z0, z1, z2, z3, z4, z5, z6⟩ := (after_box hz hB3).cells7; obtain ⟨y0, y1, y2, y3, y4, y5, y6⟩ := (after_box hz hB3).frozen7)
    all_goals
      clear q0 q1 q2 q3 q4 q5 q6 hgd c0 c1 c2 c3 c4 c5 c6
      have hb3 : Below w.heap.size w w3 := after_below hB2 hB3
      have hb4 := ((((((hb3.setCell (p := ⟨w.heap.size, 0, none⟩) (Nat.le_refl _) (.int .i64 6)).setCell (p := ⟨w.heap.size, 1, none⟩) (Nat.le_refl _) (.int .i64 (layI s))).setCell (p := ⟨w.heap.size, 2, none⟩) (Nat.le_refl _) (.int .i64 0)).setCell (p := ⟨w.heap.size, 3, none⟩) (Nat.le_refl _) (.slice fa fn fc)).setCell (p := ⟨w.heap.size, 4, none⟩) (Nat.le_refl _) (.slice none 0 0)).setCell (p := ⟨w.heap.size, 5, none⟩) (Nat.le_refl _) (.slice sa sn sc)).setCell (p := ⟨w.heap.size, 6, none⟩) (Nat.le_refl _) (.slice none 0 0)
      have hfr := frow_of (fv := (.slice fa fn fc)) (ev := (.slice none 0 0)) (sv := (.slice sa sn sc)) hok HB.out
      clear hok hb3 hB3 hB2 hs2 hz hg
      go_wp2_with fail
      exact bodyPost_ret (v := .tuple #[.agg (geomC 6 (layI s) 0 (.slice fa fn fc) (.slice none 0 0) (.slice sa sn sc) (.slice none 0 0)), .bool b]) (by simp [results, Tryd.results23, go_sem, z0, z1, z2, z3, z4, z5, z6, geomC]) rfl ⟨_, _, _, _, _, _, _, _, _, _, _, _, rfl, hfr, hb4⟩

end Go.Proofs.YtodihpaabkplhaaDoor
