/- spec.Good of what is no collection. -/
import Derived.Test.YtodihpaabkplhaaDoorGee
namespace Go.Proofs.YtodihpaabkplhaaDoor
open Go.RowKit

/-- Polygons: ends of list i are e i j, m i of them. Where polygon i begins. -/
def fromA (st : Nat) (m : Nat → Nat) (e : Nat → Nat → Nat) : Nat → Nat
  | 0 => st
  | i + 1 => fromE (fromA st m e i) (e i) (m i)
def AreasUp (s : Nat) (m : Nat → Nat) (e : Nat → Nat → Nat) (k : Nat) : Prop := ∀ i, i < k → EndsUp s (fromA 0 m e i) (e i) (m i)
def natE (e : Nat → Int) (i : Nat) : Nat := (e i).toNat
def natEE (e : Nat → Nat → Int) (i : Nat) : Nat → Nat := natE (e i)
/-- What lists of ends tell, one behind the other. -/
def AreasGood (e : Nat → Nat → Int) (m : Nat → Nat) (i s tt : Nat) (ok : Bool) : Prop :=
  ok = true → (∀ j, j < i → ∀ a, a < m j → e j a = ((e j a).toNat : Int)) ∧ AreasUp s m (natEE e) i ∧ tt = fromA 0 m (natEE e) i
theorem AreasGood.zero (e : Nat → Nat → Int) (m : Nat → Nat) (s : Nat) : AreasGood e m 0 s 0 true :=
  fun _ => ⟨fun _ h => absurd h (by omega), fun _ h => absurd h (by omega), rfl⟩
theorem AreasGood.succ {e : Nat → Nat → Int} {m : Nat → Nat} {i s tt tt' : Nat} {ok is : Bool} (h : AreasGood e m i s tt ok) (hg : EndsGood (e i) (m i) s tt false tt' is) : AreasGood e m (i + 1) s tt' (ok && is) := by
  intro hb
  rw [Bool.and_eq_true] at hb
  obtain ⟨h1, h2, h3⟩ := h hb.1
  obtain ⟨g1, g2, g3, _⟩ := hg hb.2
  refine ⟨fun j hj => ?_, fun j hj => ?_, ?_⟩
  · rcases Nat.lt_or_ge j i with hl | hl
    · exact h1 j hl
    · rw [show j = i by omega]; exact g1
  · rcases Nat.lt_or_ge j i with hl | hl
    · exact h2 j hl
    · rw [show j = i by omega, ← h3]; exact g2
  · rw [g3, h3]; rfl

/-- What good data tell. -/
structure GoodFacts (k : Int) (fn en sn kn s : Nat) (e : Nat → Int) (m : Nat → Nat) (ee : Nat → Nat → Int) : Prop where
  stride : s ≠ 0
  whole : fn % s = 0
  kids : kn = 0
  lists : k = 6 ∨ sn = 0
  line : k = 2 ∨ k = 8 → en = 0
  ends : k = 3 ∨ k = 4 ∨ k = 5 → ∃ tt, EndsGood e en s 0 (k == 4) tt true ∧ tt = fn
  areas : k = 6 → (∃ tt, AreasGood ee m sn s tt true ∧ tt = fn) ∧ en = 0
def GoodOk (k : Int) (fn en sn kn s : Nat) (e : Nat → Int) (m : Nat → Nat) (ee : Nat → Nat → Int) (b : Bool) : Prop := b = true → GoodFacts k fn en sn kn s e m ee
theorem GoodOk.bad (k : Int) (fn en sn kn s : Nat) (e : Nat → Int) (m : Nat → Nat) (ee : Nat → Nat → Int) : GoodOk k fn en sn kn s e m ee false := fun h => by cases h

-- PARTS
set_option maxRecDepth 100000 in
set_option maxHeartbeats 3200000 in
theorem good_point (l q : Int) (fa ea sa ka : Option Addr) (fn fc en ec sn sc kn kc s : Nat) (e : Nat → Int) (m : Nat → Nat) (ee : Nat → Nat → Int) (w : World) (hl : strideI l = (s : Int)) (he : IRow w ea en e) (hs : LRow w sa sn m ee)
    (hf9 : fn ≤ 9223372036854775807) (he9 : en ≤ 9223372036854775807) (hs9 : sn ≤ 9223372036854775807) (_hk9 : kn ≤ 9223372036854775807) (ht9 : s ≤ 9223372036854775807) (h0 : s ≠ 0) (h1 : fn % s = 0) (h2 : kn = 0) (h3 : sn = 0) :
    Calls Tryd.prog 33 #[geomV 1 l q (.slice fa fn fc) (.slice ea en ec) (.slice sa sn sc) (.slice ka kn kc)] w fun en' w' => ∃ b, en' = .returned (.bool b) ∧ GoodOk 1 fn en sn kn s e m ee b ∧ Below w.heap.size w w' := by
  obtain ⟨hbx, hB⟩ := boxed w 1 l q (.slice fa fn fc) (.slice ea en ec) (.slice sa sn sc) (.slice ka kn kc)
  obtain ⟨W1, hW1⟩ : ∃ W1, (w.alloc (.cells #[.int .i64 1, .int .i64 l, .int .i64 q, .slice fa fn fc, .slice ea en ec, .slice sa sn sc, .slice ka kn kc] 33)) = W1 := ⟨_, rfl⟩
  have hst : Calls Tryd.prog 36 #[.int .i64 l] (w.alloc (.cells #[.int .i64 1, .int .i64 l, .int .i64 q, .slice fa fn fc, .slice ea en ec, .slice sa sn sc, .slice ka kn kc] 33)) fun e w' => e = .returned (.int .i64 s) ∧ W1 = w' :=
    (stride_any l _).mono fun e w' h => ⟨by rw [h.1, hl], by rw [← h.2, hW1]⟩
  rw [hW1] at hbx hB
  have HE := Lib.hid (he.below hB)
  have HS := Lib.hid (hs.below hB)
  obtain ⟨c0, c1, c2, c3, c4, c5, c6⟩ := hbx.cells7
  have b1 : (fn : Int) ≤ 9223372036854775807 := by omega
  have b2 : (en : Int) ≤ 9223372036854775807 := by omega
  have b3 : (sn : Int) ≤ 9223372036854775807 := by omega
  have b4 : (kn : Int) ≤ 9223372036854775807 := by omega
  have b5 : (s : Int) ≤ 9223372036854775807 := by omega
  have HF9 := Lib.hid hf9
  have HE9 := Lib.hid he9
  have HS9 := Lib.hid hs9
  have HT9 := Lib.hid ht9
  clear he hs hl hW1 hf9 he9 hs9 _hk9 hbx ht9
  have h1i : ((fn : Int) % (s : Int) != 0) = false := by rw [← Int.natCast_emod, h1]; rfl
  have h2i : ¬ 0 < kn := by omega
  have h0i : ¬ s = 0 := h0
  have h0b : ((s : Int) == 0) = false := by rw [beq_eq_false_iff_ne]; omega
  have h3i : ¬ 0 < sn := by omega
  have H3 := Lib.hid h3
  have H0 := Lib.hid h0
  have H1 := Lib.hid h1
  have H2 := Lib.hid h2
  unfold geomV
  clear h0 h1 h2 h3
  go_enter Tryd.func33, Tryd.ntmps33
  go_wp2_with fail
  refine hst.mono ?_
  rintro en1 w1 ⟨rfl, rfl⟩
  clear hst
  go_wp2_with fail
  all_goals
    go_ret
    exact ⟨_, rfl, fun _ => ⟨H0.out, H1.out, H2.out, Or.inr H3.out, fun h => by omega, fun h => by omega, fun h => by omega⟩, hB⟩

set_option maxRecDepth 100000 in
set_option maxHeartbeats 3200000 in
theorem good_line (l q : Int) (fa ea sa ka : Option Addr) (fn fc en ec sn sc kn kc s : Nat) (e : Nat → Int) (m : Nat → Nat) (ee : Nat → Nat → Int) (w : World) (hl : strideI l = (s : Int)) (he : IRow w ea en e) (hs : LRow w sa sn m ee)
    (hf9 : fn ≤ 9223372036854775807) (he9 : en ≤ 9223372036854775807) (hs9 : sn ≤ 9223372036854775807) (_hk9 : kn ≤ 9223372036854775807) (ht9 : s ≤ 9223372036854775807) (h0 : s ≠ 0) (h1 : fn % s = 0) (h2 : kn = 0) (h3 : sn = 0) :
    Calls Tryd.prog 33 #[geomV 2 l q (.slice fa fn fc) (.slice ea en ec) (.slice sa sn sc) (.slice ka kn kc)] w fun en' w' => ∃ b, en' = .returned (.bool b) ∧ GoodOk 2 fn en sn kn s e m ee b ∧ Below w.heap.size w w' := by
  obtain ⟨hbx, hB⟩ := boxed w 2 l q (.slice fa fn fc) (.slice ea en ec) (.slice sa sn sc) (.slice ka kn kc)
  obtain ⟨W1, hW1⟩ : ∃ W1, (w.alloc (.cells #[.int .i64 2, .int .i64 l, .int .i64 q, .slice fa fn fc, .slice ea en ec, .slice sa sn sc, .slice ka kn kc] 33)) = W1 := ⟨_, rfl⟩
  have hst : Calls Tryd.prog 36 #[.int .i64 l] (w.alloc (.cells #[.int .i64 2, .int .i64 l, .int .i64 q, .slice fa fn fc, .slice ea en ec, .slice sa sn sc, .slice ka kn kc] 33)) fun e w' => e = .returned (.int .i64 s) ∧ W1 = w' :=
    (stride_any l _).mono fun e w' h => ⟨by rw [h.1, hl], by rw [← h.2, hW1]⟩
  rw [hW1] at hbx hB
  have HE := Lib.hid (he.below hB)
  have HS := Lib.hid (hs.below hB)
  obtain ⟨c0, c1, c2, c3, c4, c5, c6⟩ := hbx.cells7
  have b1 : (fn : Int) ≤ 9223372036854775807 := by omega
  have b2 : (en : Int) ≤ 9223372036854775807 := by omega
  have b3 : (sn : Int) ≤ 9223372036854775807 := by omega
  have b4 : (kn : Int) ≤ 9223372036854775807 := by omega
  have b5 : (s : Int) ≤ 9223372036854775807 := by omega
  have HF9 := Lib.hid hf9
  have HE9 := Lib.hid he9
  have HS9 := Lib.hid hs9
  have HT9 := Lib.hid ht9
  clear he hs hl hW1 hf9 he9 hs9 _hk9 hbx ht9
  have h1i : ((fn : Int) % (s : Int) != 0) = false := by rw [← Int.natCast_emod, h1]; rfl
  have h2i : ¬ 0 < kn := by omega
  have h0i : ¬ s = 0 := h0
  have h0b : ((s : Int) == 0) = false := by rw [beq_eq_false_iff_ne]; omega
  have h3i : ¬ 0 < sn := by omega
  have H3 := Lib.hid h3
  have H0 := Lib.hid h0
  have H1 := Lib.hid h1
  have H2 := Lib.hid h2
  unfold geomV
  clear h0 h1 h2 h3
  go_enter Tryd.func33, Tryd.ntmps33
  go_wp2_with fail
  refine hst.mono ?_
  rintro en1 w1 ⟨rfl, rfl⟩
  clear hst
  by_cases h4 : en = 0
  · have h4i : ((en : Int) == 0) = true := by rw [h4]; rfl
    have H4 := Lib.hid h4
    clear h4
    go_wp2_with fail
    go_ret
    exact ⟨_, rfl, fun _ => ⟨H0.out, H1.out, H2.out, Or.inr H3.out, fun _ => H4.out, fun h => by omega, fun h => by omega⟩, hB⟩
  · have h4i : ((en : Int) == 0) = false := by rw [beq_eq_false_iff_ne]; omega
    clear h4
    go_wp2_with fail
    go_ret
    exact ⟨_, rfl, GoodOk.bad _ _ _ _ _ _ _ _ _, hB⟩

set_option maxRecDepth 100000 in
set_option maxHeartbeats 3200000 in
theorem good_ring (l q : Int) (fa ea sa ka : Option Addr) (fn fc en ec sn sc kn kc s : Nat) (e : Nat → Int) (m : Nat → Nat) (ee : Nat → Nat → Int) (w : World) (hl : strideI l = (s : Int)) (he : IRow w ea en e) (hs : LRow w sa sn m ee)
    (hf9 : fn ≤ 9223372036854775807) (he9 : en ≤ 9223372036854775807) (hs9 : sn ≤ 9223372036854775807) (_hk9 : kn ≤ 9223372036854775807) (ht9 : s ≤ 9223372036854775807) (h0 : s ≠ 0) (h1 : fn % s = 0) (h2 : kn = 0) (h3 : sn = 0) :
    Calls Tryd.prog 33 #[geomV 8 l q (.slice fa fn fc) (.slice ea en ec) (.slice sa sn sc) (.slice ka kn kc)] w fun en' w' => ∃ b, en' = .returned (.bool b) ∧ GoodOk 8 fn en sn kn s e m ee b ∧ Below w.heap.size w w' := by
  obtain ⟨hbx, hB⟩ := boxed w 8 l q (.slice fa fn fc) (.slice ea en ec) (.slice sa sn sc) (.slice ka kn kc)
  obtain ⟨W1, hW1⟩ : ∃ W1, (w.alloc (.cells #[.int .i64 8, .int .i64 l, .int .i64 q, .slice fa fn fc, .slice ea en ec, .slice sa sn sc, .slice ka kn kc] 33)) = W1 := ⟨_, rfl⟩
  have hst : Calls Tryd.prog 36 #[.int .i64 l] (w.alloc (.cells #[.int .i64 8, .int .i64 l, .int .i64 q, .slice fa fn fc, .slice ea en ec, .slice sa sn sc, .slice ka kn kc] 33)) fun e w' => e = .returned (.int .i64 s) ∧ W1 = w' :=
    (stride_any l _).mono fun e w' h => ⟨by rw [h.1, hl], by rw [← h.2, hW1]⟩
  rw [hW1] at hbx hB
  have HE := Lib.hid (he.below hB)
  have HS := Lib.hid (hs.below hB)
  obtain ⟨c0, c1, c2, c3, c4, c5, c6⟩ := hbx.cells7
  have b1 : (fn : Int) ≤ 9223372036854775807 := by omega
  have b2 : (en : Int) ≤ 9223372036854775807 := by omega
  have b3 : (sn : Int) ≤ 9223372036854775807 := by omega
  have b4 : (kn : Int) ≤ 9223372036854775807 := by omega
  have b5 : (s : Int) ≤ 9223372036854775807 := by omega
  have HF9 := Lib.hid hf9
  have HE9 := Lib.hid he9
  have HS9 := Lib.hid hs9
  have HT9 := Lib.hid ht9
  clear he hs hl hW1 hf9 he9 hs9 _hk9 hbx ht9
  have h1i : ((fn : Int) % (s : Int) != 0) = false := by rw [← Int.natCast_emod, h1]; rfl
  have h2i : ¬ 0 < kn := by omega
  have h0i : ¬ s = 0 := h0
  have h0b : ((s : Int) == 0) = false := by rw [beq_eq_false_iff_ne]; omega
  have h3i : ¬ 0 < sn := by omega
  have H3 := Lib.hid h3
  have H0 := Lib.hid h0
  have H1 := Lib.hid h1
  have H2 := Lib.hid h2
  unfold geomV
  clear h0 h1 h2 h3
  go_enter Tryd.func33, Tryd.ntmps33
  go_wp2_with fail
  refine hst.mono ?_
  rintro en1 w1 ⟨rfl, rfl⟩
  clear hst
  by_cases h4 : en = 0
  · have h4i : ((en : Int) == 0) = true := by rw [h4]; rfl
    have H4 := Lib.hid h4
    clear h4
    go_wp2_with fail
    go_ret
    exact ⟨_, rfl, fun _ => ⟨H0.out, H1.out, H2.out, Or.inr H3.out, fun _ => H4.out, fun h => by omega, fun h => by omega⟩, hB⟩
  · have h4i : ((en : Int) == 0) = false := by rw [beq_eq_false_iff_ne]; omega
    clear h4
    go_wp2_with fail
    go_ret
    exact ⟨_, rfl, GoodOk.bad _ _ _ _ _ _ _ _ _, hB⟩

set_option maxRecDepth 100000 in
set_option maxHeartbeats 3200000 in
theorem good_polygon (l q : Int) (fa ea sa ka : Option Addr) (fn fc en ec sn sc kn kc s : Nat) (e : Nat → Int) (m : Nat → Nat) (ee : Nat → Nat → Int) (w : World) (hl : strideI l = (s : Int)) (he : IRow w ea en e) (hs : LRow w sa sn m ee)
    (hf9 : fn ≤ 9223372036854775807) (he9 : en ≤ 9223372036854775807) (hs9 : sn ≤ 9223372036854775807) (_hk9 : kn ≤ 9223372036854775807) (ht9 : s ≤ 9223372036854775807) (h0 : s ≠ 0) (h1 : fn % s = 0) (h2 : kn = 0) (h3 : sn = 0) :
    Calls Tryd.prog 33 #[geomV 3 l q (.slice fa fn fc) (.slice ea en ec) (.slice sa sn sc) (.slice ka kn kc)] w fun en' w' => ∃ b, en' = .returned (.bool b) ∧ GoodOk 3 fn en sn kn s e m ee b ∧ Below w.heap.size w w' := by
  obtain ⟨hbx, hB⟩ := boxed w 3 l q (.slice fa fn fc) (.slice ea en ec) (.slice sa sn sc) (.slice ka kn kc)
  obtain ⟨W1, hW1⟩ : ∃ W1, (w.alloc (.cells #[.int .i64 3, .int .i64 l, .int .i64 q, .slice fa fn fc, .slice ea en ec, .slice sa sn sc, .slice ka kn kc] 33)) = W1 := ⟨_, rfl⟩
  have hst : Calls Tryd.prog 36 #[.int .i64 l] (w.alloc (.cells #[.int .i64 3, .int .i64 l, .int .i64 q, .slice fa fn fc, .slice ea en ec, .slice sa sn sc, .slice ka kn kc] 33)) fun e w' => e = .returned (.int .i64 s) ∧ W1 = w' :=
    (stride_any l _).mono fun e w' h => ⟨by rw [h.1, hl], by rw [← h.2, hW1]⟩
  rw [hW1] at hbx hB
  have HE := Lib.hid (he.below hB)
  have HS := Lib.hid (hs.below hB)
  obtain ⟨c0, c1, c2, c3, c4, c5, c6⟩ := hbx.cells7
  have b1 : (fn : Int) ≤ 9223372036854775807 := by omega
  have b2 : (en : Int) ≤ 9223372036854775807 := by omega
  have b3 : (sn : Int) ≤ 9223372036854775807 := by omega
  have b4 : (kn : Int) ≤ 9223372036854775807 := by omega
  have b5 : (s : Int) ≤ 9223372036854775807 := by omega
  have HF9 := Lib.hid hf9
  have HE9 := Lib.hid he9
  have HS9 := Lib.hid hs9
  have HT9 := Lib.hid ht9
  clear he hs hl hW1 hf9 he9 hs9 _hk9 hbx ht9
  have hge := goodEnds_any ea en ec 0 s false e W1 HE.out (by have := HE9.out; omega) (by omega) (by have := HT9.out; omega) (by omega)
  have z0 : ((0 : Nat) : Int) = 0 := rfl
  rw [z0] at hge
  clear z0
  have h1i : ((fn : Int) % (s : Int) != 0) = false := by rw [← Int.natCast_emod, h1]; rfl
  have h2i : ¬ 0 < kn := by omega
  have h0i : ¬ s = 0 := h0
  have h0b : ((s : Int) == 0) = false := by rw [beq_eq_false_iff_ne]; omega
  have h3i : ¬ 0 < sn := by omega
  have H3 := Lib.hid h3
  have H0 := Lib.hid h0
  have H1 := Lib.hid h1
  have H2 := Lib.hid h2
  unfold geomV
  clear h0 h1 h2 h3
  go_enter Tryd.func33, Tryd.ntmps33
  go_wp2_with fail
  refine hst.mono ?_
  rintro en1 w1 ⟨rfl, rfl⟩
  clear hst
  go_wp2_with fail
  refine hge.mono ?_
  rintro en1 w1 ⟨tt, ok, rfl, ⟨htt, heg⟩, rfl⟩
  clear hge
  have HEG := Lib.hid heg
  have htt' : (tt : Int) ≤ 9223372036854775807 := by omega
  clear heg htt
  cases ok with
  | false =>
    go_wp2_with fail
    go_ret
    exact ⟨_, rfl, GoodOk.bad _ _ _ _ _ _ _ _ _, hB⟩
  | true =>
    by_cases h5 : tt = fn
    · have h5i : ((tt : Int) == (fn : Int)) = true := by rw [h5, beq_self_eq_true]
      have H5 := Lib.hid h5
      clear h5
      go_wp2_with fail
      go_ret
      exact ⟨_, rfl, fun _ => ⟨H0.out, H1.out, H2.out, Or.inr H3.out, fun h => by omega, fun _ => ⟨tt, HEG.out, H5.out⟩, fun h => by omega⟩, hB⟩
    · have h5i : ((tt : Int) == (fn : Int)) = false := by rw [beq_eq_false_iff_ne]; omega
      clear h5
      go_wp2_with fail
      go_ret
      exact ⟨_, rfl, GoodOk.bad _ _ _ _ _ _ _ _ _, hB⟩

set_option maxRecDepth 100000 in
set_option maxHeartbeats 3200000 in
theorem good_points (l q : Int) (fa ea sa ka : Option Addr) (fn fc en ec sn sc kn kc s : Nat) (e : Nat → Int) (m : Nat → Nat) (ee : Nat → Nat → Int) (w : World) (hl : strideI l = (s : Int)) (he : IRow w ea en e) (hs : LRow w sa sn m ee)
    (hf9 : fn ≤ 9223372036854775807) (he9 : en ≤ 9223372036854775807) (hs9 : sn ≤ 9223372036854775807) (_hk9 : kn ≤ 9223372036854775807) (ht9 : s ≤ 9223372036854775807) (h0 : s ≠ 0) (h1 : fn % s = 0) (h2 : kn = 0) (h3 : sn = 0) :
    Calls Tryd.prog 33 #[geomV 4 l q (.slice fa fn fc) (.slice ea en ec) (.slice sa sn sc) (.slice ka kn kc)] w fun en' w' => ∃ b, en' = .returned (.bool b) ∧ GoodOk 4 fn en sn kn s e m ee b ∧ Below w.heap.size w w' := by
  obtain ⟨hbx, hB⟩ := boxed w 4 l q (.slice fa fn fc) (.slice ea en ec) (.slice sa sn sc) (.slice ka kn kc)
  obtain ⟨W1, hW1⟩ : ∃ W1, (w.alloc (.cells #[.int .i64 4, .int .i64 l, .int .i64 q, .slice fa fn fc, .slice ea en ec, .slice sa sn sc, .slice ka kn kc] 33)) = W1 := ⟨_, rfl⟩
  have hst : Calls Tryd.prog 36 #[.int .i64 l] (w.alloc (.cells #[.int .i64 4, .int .i64 l, .int .i64 q, .slice fa fn fc, .slice ea en ec, .slice sa sn sc, .slice ka kn kc] 33)) fun e w' => e = .returned (.int .i64 s) ∧ W1 = w' :=
    (stride_any l _).mono fun e w' h => ⟨by rw [h.1, hl], by rw [← h.2, hW1]⟩
  rw [hW1] at hbx hB
  have HE := Lib.hid (he.below hB)
  have HS := Lib.hid (hs.below hB)
  obtain ⟨c0, c1, c2, c3, c4, c5, c6⟩ := hbx.cells7
  have b1 : (fn : Int) ≤ 9223372036854775807 := by omega
  have b2 : (en : Int) ≤ 9223372036854775807 := by omega
  have b3 : (sn : Int) ≤ 9223372036854775807 := by omega
  have b4 : (kn : Int) ≤ 9223372036854775807 := by omega
  have b5 : (s : Int) ≤ 9223372036854775807 := by omega
  have HF9 := Lib.hid hf9
  have HE9 := Lib.hid he9
  have HS9 := Lib.hid hs9
  have HT9 := Lib.hid ht9
  clear he hs hl hW1 hf9 he9 hs9 _hk9 hbx ht9
  have hge := goodEnds_any ea en ec 0 s true e W1 HE.out (by have := HE9.out; omega) (by omega) (by have := HT9.out; omega) (by omega)
  have z0 : ((0 : Nat) : Int) = 0 := rfl
  rw [z0] at hge
  clear z0
  have h1i : ((fn : Int) % (s : Int) != 0) = false := by rw [← Int.natCast_emod, h1]; rfl
  have h2i : ¬ 0 < kn := by omega
  have h0i : ¬ s = 0 := h0
  have h0b : ((s : Int) == 0) = false := by rw [beq_eq_false_iff_ne]; omega
  have h3i : ¬ 0 < sn := by omega
  have H3 := Lib.hid h3
  have H0 := Lib.hid h0
  have H1 := Lib.hid h1
  have H2 := Lib.hid h2
  unfold geomV
  clear h0 h1 h2 h3
  go_enter Tryd.func33, Tryd.ntmps33
  go_wp2_with fail
  refine hst.mono ?_
  rintro en1 w1 ⟨rfl, rfl⟩
  clear hst
  go_wp2_with fail
  refine hge.mono ?_
  rintro en1 w1 ⟨tt, ok, rfl, ⟨htt, heg⟩, rfl⟩
  clear hge
  have HEG := Lib.hid heg
  have htt' : (tt : Int) ≤ 9223372036854775807 := by omega
  clear heg htt
  cases ok with
  | false =>
    go_wp2_with fail
    go_ret
    exact ⟨_, rfl, GoodOk.bad _ _ _ _ _ _ _ _ _, hB⟩
  | true =>
    by_cases h5 : tt = fn
    · have h5i : ((tt : Int) == (fn : Int)) = true := by rw [h5, beq_self_eq_true]
      have H5 := Lib.hid h5
      clear h5
      go_wp2_with fail
      go_ret
      exact ⟨_, rfl, fun _ => ⟨H0.out, H1.out, H2.out, Or.inr H3.out, fun h => by omega, fun _ => ⟨tt, HEG.out, H5.out⟩, fun h => by omega⟩, hB⟩
    · have h5i : ((tt : Int) == (fn : Int)) = false := by rw [beq_eq_false_iff_ne]; omega
      clear h5
      go_wp2_with fail
      go_ret
      exact ⟨_, rfl, GoodOk.bad _ _ _ _ _ _ _ _ _, hB⟩

set_option maxRecDepth 100000 in
set_option maxHeartbeats 3200000 in
theorem good_lines (l q : Int) (fa ea sa ka : Option Addr) (fn fc en ec sn sc kn kc s : Nat) (e : Nat → Int) (m : Nat → Nat) (ee : Nat → Nat → Int) (w : World) (hl : strideI l = (s : Int)) (he : IRow w ea en e) (hs : LRow w sa sn m ee)
    (hf9 : fn ≤ 9223372036854775807) (he9 : en ≤ 9223372036854775807) (hs9 : sn ≤ 9223372036854775807) (_hk9 : kn ≤ 9223372036854775807) (ht9 : s ≤ 9223372036854775807) (h0 : s ≠ 0) (h1 : fn % s = 0) (h2 : kn = 0) (h3 : sn = 0) :
    Calls Tryd.prog 33 #[geomV 5 l q (.slice fa fn fc) (.slice ea en ec) (.slice sa sn sc) (.slice ka kn kc)] w fun en' w' => ∃ b, en' = .returned (.bool b) ∧ GoodOk 5 fn en sn kn s e m ee b ∧ Below w.heap.size w w' := by
  obtain ⟨hbx, hB⟩ := boxed w 5 l q (.slice fa fn fc) (.slice ea en ec) (.slice sa sn sc) (.slice ka kn kc)
  obtain ⟨W1, hW1⟩ : ∃ W1, (w.alloc (.cells #[.int .i64 5, .int .i64 l, .int .i64 q, .slice fa fn fc, .slice ea en ec, .slice sa sn sc, .slice ka kn kc] 33)) = W1 := ⟨_, rfl⟩
  have hst : Calls Tryd.prog 36 #[.int .i64 l] (w.alloc (.cells #[.int .i64 5, .int .i64 l, .int .i64 q, .slice fa fn fc, .slice ea en ec, .slice sa sn sc, .slice ka kn kc] 33)) fun e w' => e = .returned (.int .i64 s) ∧ W1 = w' :=
    (stride_any l _).mono fun e w' h => ⟨by rw [h.1, hl], by rw [← h.2, hW1]⟩
  rw [hW1] at hbx hB
  have HE := Lib.hid (he.below hB)
  have HS := Lib.hid (hs.below hB)
  obtain ⟨c0, c1, c2, c3, c4, c5, c6⟩ := hbx.cells7
  have b1 : (fn : Int) ≤ 9223372036854775807 := by omega
  have b2 : (en : Int) ≤ 9223372036854775807 := by omega
  have b3 : (sn : Int) ≤ 9223372036854775807 := by omega
  have b4 : (kn : Int) ≤ 9223372036854775807 := by omega
  have b5 : (s : Int) ≤ 9223372036854775807 := by omega
  have HF9 := Lib.hid hf9
  have HE9 := Lib.hid he9
  have HS9 := Lib.hid hs9
  have HT9 := Lib.hid ht9
  clear he hs hl hW1 hf9 he9 hs9 _hk9 hbx ht9
  have hge := goodEnds_any ea en ec 0 s false e W1 HE.out (by have := HE9.out; omega) (by omega) (by have := HT9.out; omega) (by omega)
  have z0 : ((0 : Nat) : Int) = 0 := rfl
  rw [z0] at hge
  clear z0
  have h1i : ((fn : Int) % (s : Int) != 0) = false := by rw [← Int.natCast_emod, h1]; rfl
  have h2i : ¬ 0 < kn := by omega
  have h0i : ¬ s = 0 := h0
  have h0b : ((s : Int) == 0) = false := by rw [beq_eq_false_iff_ne]; omega
  have h3i : ¬ 0 < sn := by omega
  have H3 := Lib.hid h3
  have H0 := Lib.hid h0
  have H1 := Lib.hid h1
  have H2 := Lib.hid h2
  unfold geomV
  clear h0 h1 h2 h3
  go_enter Tryd.func33, Tryd.ntmps33
  go_wp2_with fail
  refine hst.mono ?_
  rintro en1 w1 ⟨rfl, rfl⟩
  clear hst
  go_wp2_with fail
  refine hge.mono ?_
  rintro en1 w1 ⟨tt, ok, rfl, ⟨htt, heg⟩, rfl⟩
  clear hge
  have HEG := Lib.hid heg
  have htt' : (tt : Int) ≤ 9223372036854775807 := by omega
  clear heg htt
  cases ok with
  | false =>
    go_wp2_with fail
    go_ret
    exact ⟨_, rfl, GoodOk.bad _ _ _ _ _ _ _ _ _, hB⟩
  | true =>
    by_cases h5 : tt = fn
    · have h5i : ((tt : Int) == (fn : Int)) = true := by rw [h5, beq_self_eq_true]
      have H5 := Lib.hid h5
      clear h5
      go_wp2_with fail
      go_ret
      exact ⟨_, rfl, fun _ => ⟨H0.out, H1.out, H2.out, Or.inr H3.out, fun h => by omega, fun _ => ⟨tt, HEG.out, H5.out⟩, fun h => by omega⟩, hB⟩
    · have h5i : ((tt : Int) == (fn : Int)) = false := by rw [beq_eq_false_iff_ne]; omega
      clear h5
      go_wp2_with fail
      go_ret
      exact ⟨_, rfl, GoodOk.bad _ _ _ _ _ _ _ _ _, hB⟩

set_option maxRecDepth 100000 in
set_option maxHeartbeats 3200000 in
theorem good_areas (l q : Int) (fa ea sa ka : Option Addr) (fn fc en ec sn sc kn kc s : Nat) (e : Nat → Int) (m : Nat → Nat) (ee : Nat → Nat → Int) (w : World) (hl : strideI l = (s : Int)) (he : IRow w ea en e) (hs : LRow w sa sn m ee)
    (hf9 : fn ≤ 9223372036854775807) (he9 : en ≤ 9223372036854775807) (hs9 : sn ≤ 9223372036854775807) (_hk9 : kn ≤ 9223372036854775807) (ht9 : s ≤ 9223372036854775807) (h0 : s ≠ 0) (h1 : fn % s = 0) (h2 : kn = 0) :
    Calls Tryd.prog 33 #[geomV 6 l q (.slice fa fn fc) (.slice ea en ec) (.slice sa sn sc) (.slice ka kn kc)] w fun en' w' => ∃ b, en' = .returned (.bool b) ∧ GoodOk 6 fn en sn kn s e m ee b ∧ Below w.heap.size w w' := by
  obtain ⟨hbx, hB⟩ := boxed w 6 l q (.slice fa fn fc) (.slice ea en ec) (.slice sa sn sc) (.slice ka kn kc)
  obtain ⟨W1, hW1⟩ : ∃ W1, (w.alloc (.cells #[.int .i64 6, .int .i64 l, .int .i64 q, .slice fa fn fc, .slice ea en ec, .slice sa sn sc, .slice ka kn kc] 33)) = W1 := ⟨_, rfl⟩
  have hst : Calls Tryd.prog 36 #[.int .i64 l] (w.alloc (.cells #[.int .i64 6, .int .i64 l, .int .i64 q, .slice fa fn fc, .slice ea en ec, .slice sa sn sc, .slice ka kn kc] 33)) fun e w' => e = .returned (.int .i64 s) ∧ W1 = w' :=
    (stride_any l _).mono fun e w' h => ⟨by rw [h.1, hl], by rw [← h.2, hW1]⟩
  rw [hW1] at hbx hB
  have HE := Lib.hid (he.below hB)
  have HS := Lib.hid (hs.below hB)
  obtain ⟨c0, c1, c2, c3, c4, c5, c6⟩ := hbx.cells7
  have b1 : (fn : Int) ≤ 9223372036854775807 := by omega
  have b2 : (en : Int) ≤ 9223372036854775807 := by omega
  have b3 : (sn : Int) ≤ 9223372036854775807 := by omega
  have b4 : (kn : Int) ≤ 9223372036854775807 := by omega
  have b5 : (s : Int) ≤ 9223372036854775807 := by omega
  have HF9 := Lib.hid hf9
  have HE9 := Lib.hid he9
  have HS9 := Lib.hid hs9
  have HT9 := Lib.hid ht9
  clear he hs hl hW1 hf9 he9 hs9 _hk9 hbx ht9
  have h1i : ((fn : Int) % (s : Int) != 0) = false := by rw [← Int.natCast_emod, h1]; rfl
  have h2i : ¬ 0 < kn := by omega
  have h0i : ¬ s = 0 := h0
  have h0b : ((s : Int) == 0) = false := by rw [beq_eq_false_iff_ne]; omega
  have H0 := Lib.hid h0
  have H1 := Lib.hid h1
  have H2 := Lib.hid h2
  unfold geomV
  clear h0 h1 h2
  by_cases h3 : 0 < sn
  all_goals
   (go_enter Tryd.func33, Tryd.ntmps33
    go_wp2_with fail
    refine hst.mono ?_
    rintro en1 w1 ⟨rfl, rfl⟩
    clear hst
    go_wp2_with fail
    go_loopg [135, 8, 9] sn (fun mm v135 v8 v9 wr => ∃ (i tt : Nat) (ok : Bool), i + mm = sn ∧ v135 = .int .i64 i ∧ v8 = .int .i64 tt ∧ v9 = .bool ok ∧ Hid (tt ≤ 9223372036854775807) ∧ Hid (AreasGood ee m i s tt ok) ∧ wr = W1)
    case atStart => exact ⟨0, 0, true, by omega, rfl, rfl, rfl, (by decide : (0 : Nat) ≤ 9223372036854775807), AreasGood.zero _ _ _, rfl⟩
    case round =>
      obtain ⟨i, tt, ok, hi, rfl, rfl, rfl, htt, hag, rfl⟩ := hrel
      have htt' : (tt : Int) ≤ 9223372036854775807 := by have := htt.out; omega
      cases gk with
      | zero =>
        have hin : i = sn := by omega
        subst hin
        cases ok with
        | false =>
          go_wp2_with fail
          go_ret
          exact ⟨_, rfl, GoodOk.bad _ _ _ _ _ _ _ _ _, hB⟩
        | true =>
          by_cases h5 : tt = fn
          · have h5i : ((tt : Int) == (fn : Int)) = true := by rw [h5, beq_self_eq_true]
            have H5 := Lib.hid h5
            clear h5
            by_cases h4 : en = 0
            · have h4i : ((en : Int) == 0) = true := by rw [h4]; rfl
              have H4 := Lib.hid h4
              clear h4
              go_wp2_with fail
              go_ret
              exact ⟨_, rfl, fun _ => ⟨H0.out, H1.out, H2.out, Or.inl rfl, fun h => by omega, fun h => by omega, fun _ => ⟨⟨tt, hag.out, H5.out⟩, H4.out⟩⟩, hB⟩
            · have h4i : ((en : Int) == 0) = false := by rw [beq_eq_false_iff_ne]; omega
              clear h4
              go_wp2_with fail
              go_ret
              exact ⟨_, rfl, GoodOk.bad _ _ _ _ _ _ _ _ _, hB⟩
          · have h5i : ((tt : Int) == (fn : Int)) = false := by rw [beq_eq_false_iff_ne]; omega
            clear h5
            go_wp2_with fail
            go_ret
            exact ⟨_, rfl, GoodOk.bad _ _ _ _ _ _ _ _ _, hB⟩
      | succ mm =>
        obtain ⟨blk, off, rfl, hc⟩ := HS.out (by omega)
        obtain ⟨ao, cap, hc1, hmc, hcm, hir⟩ := hc i (by omega)
        have hge := goodEnds_any ao (m i) cap tt s false (ee i) wr hir (by unfold maxLen at hcm; omega) (by have := H0.out; omega) (by have := HT9.out; omega) htt.out
        have hlt : (i : Int) < sn := by omega
        have hi1 : (i : Int) ≤ 9223372036854775806 := by have := HS9.out; omega
        clear hc hmc hcm hir
        go_wp2_with fail
        refine hge.mono ?_
        rintro en1 w1 ⟨tt', is, rfl, ⟨htt2, heg⟩, rfl⟩
        clear hge
        have HEG := Lib.hid heg
        have HTT := Lib.hid htt2
        clear heg htt2
        cases ok with
        | true =>
          go_wp2_with fail
          go_roundg mm
          case measure => omega
          case rel => exact ⟨i + 1, tt', is, by omega, rfl, rfl, rfl, HTT.out, hag.out.succ HEG.out, rfl⟩
        | false =>
          go_wp2_with fail
          go_roundg mm
          case measure => omega
          case rel => exact ⟨i + 1, tt', false, by omega, rfl, rfl, rfl, HTT.out, hag.out.succ HEG.out, rfl⟩)

set_option maxRecDepth 100000 in
set_option maxHeartbeats 3200000 in
theorem good_no0 (k l q : Int) (fa ea sa ka : Option Addr) (fn fc en ec sn sc kn kc s : Nat) (e : Nat → Int) (m : Nat → Nat) (ee : Nat → Nat → Int) (w : World) (hk : k ≠ 7) (hl : strideI l = (s : Int)) (he : IRow w ea en e) (hs : LRow w sa sn m ee)
    (hf9 : fn ≤ 9223372036854775807) (he9 : en ≤ 9223372036854775807) (hs9 : sn ≤ 9223372036854775807) (hk9 : kn ≤ 9223372036854775807) (ht9 : s ≤ 9223372036854775807) (h0 : s = 0) :
    Calls Tryd.prog 33 #[geomV k l q (.slice fa fn fc) (.slice ea en ec) (.slice sa sn sc) (.slice ka kn kc)] w fun en' w' => ∃ b, en' = .returned (.bool b) ∧ GoodOk k fn en sn kn s e m ee b ∧ Below w.heap.size w w' := by
  obtain ⟨hbx, hB⟩ := boxed w k l q (.slice fa fn fc) (.slice ea en ec) (.slice sa sn sc) (.slice ka kn kc)
  obtain ⟨W1, hW1⟩ : ∃ W1, (w.alloc (.cells #[.int .i64 k, .int .i64 l, .int .i64 q, .slice fa fn fc, .slice ea en ec, .slice sa sn sc, .slice ka kn kc] 33)) = W1 := ⟨_, rfl⟩
  have hst : Calls Tryd.prog 36 #[.int .i64 l] (w.alloc (.cells #[.int .i64 k, .int .i64 l, .int .i64 q, .slice fa fn fc, .slice ea en ec, .slice sa sn sc, .slice ka kn kc] 33)) fun e w' => e = .returned (.int .i64 s) ∧ W1 = w' :=
    (stride_any l _).mono fun e w' h => ⟨by rw [h.1, hl], by rw [← h.2, hW1]⟩
  rw [hW1] at hbx hB
  have HE := Lib.hid (he.below hB)
  have HS := Lib.hid (hs.below hB)
  obtain ⟨c0, c1, c2, c3, c4, c5, c6⟩ := hbx.cells7
  have b1 : (fn : Int) ≤ 9223372036854775807 := by omega
  have b2 : (en : Int) ≤ 9223372036854775807 := by omega
  have b3 : (sn : Int) ≤ 9223372036854775807 := by omega
  have b4 : (kn : Int) ≤ 9223372036854775807 := by omega
  have b5 : (s : Int) ≤ 9223372036854775807 := by omega
  have HF9 := Lib.hid hf9
  have HE9 := Lib.hid he9
  have HS9 := Lib.hid hs9
  have HT9 := Lib.hid ht9
  have k7 : (k == 7) = false := beq_eq_false_iff_ne.2 hk
  have HK := Lib.hid hk
  clear hk
  clear he hs hl hW1 hf9 he9 hs9 hk9 hbx ht9
  unfold geomV
  subst h0
  go_enter Tryd.func33, Tryd.ntmps33
  go_wp2_with fail
  refine hst.mono ?_
  rintro en1 w1 ⟨rfl, rfl⟩
  clear hst
  go_wp2_with fail
  go_ret
  exact ⟨_, rfl, GoodOk.bad _ _ _ _ _ _ _ _ _, hB⟩

set_option maxRecDepth 100000 in
set_option maxHeartbeats 3200000 in
theorem good_no1 (k l q : Int) (fa ea sa ka : Option Addr) (fn fc en ec sn sc kn kc s : Nat) (e : Nat → Int) (m : Nat → Nat) (ee : Nat → Nat → Int) (w : World) (hk : k ≠ 7) (hl : strideI l = (s : Int)) (he : IRow w ea en e) (hs : LRow w sa sn m ee)
    (hf9 : fn ≤ 9223372036854775807) (he9 : en ≤ 9223372036854775807) (hs9 : sn ≤ 9223372036854775807) (hk9 : kn ≤ 9223372036854775807) (ht9 : s ≤ 9223372036854775807) (h0 : ¬ s = 0) (h1 : ¬ fn % s = 0) :
    Calls Tryd.prog 33 #[geomV k l q (.slice fa fn fc) (.slice ea en ec) (.slice sa sn sc) (.slice ka kn kc)] w fun en' w' => ∃ b, en' = .returned (.bool b) ∧ GoodOk k fn en sn kn s e m ee b ∧ Below w.heap.size w w' := by
  obtain ⟨hbx, hB⟩ := boxed w k l q (.slice fa fn fc) (.slice ea en ec) (.slice sa sn sc) (.slice ka kn kc)
  obtain ⟨W1, hW1⟩ : ∃ W1, (w.alloc (.cells #[.int .i64 k, .int .i64 l, .int .i64 q, .slice fa fn fc, .slice ea en ec, .slice sa sn sc, .slice ka kn kc] 33)) = W1 := ⟨_, rfl⟩
  have hst : Calls Tryd.prog 36 #[.int .i64 l] (w.alloc (.cells #[.int .i64 k, .int .i64 l, .int .i64 q, .slice fa fn fc, .slice ea en ec, .slice sa sn sc, .slice ka kn kc] 33)) fun e w' => e = .returned (.int .i64 s) ∧ W1 = w' :=
    (stride_any l _).mono fun e w' h => ⟨by rw [h.1, hl], by rw [← h.2, hW1]⟩
  rw [hW1] at hbx hB
  have HE := Lib.hid (he.below hB)
  have HS := Lib.hid (hs.below hB)
  obtain ⟨c0, c1, c2, c3, c4, c5, c6⟩ := hbx.cells7
  have b1 : (fn : Int) ≤ 9223372036854775807 := by omega
  have b2 : (en : Int) ≤ 9223372036854775807 := by omega
  have b3 : (sn : Int) ≤ 9223372036854775807 := by omega
  have b4 : (kn : Int) ≤ 9223372036854775807 := by omega
  have b5 : (s : Int) ≤ 9223372036854775807 := by omega
  have HF9 := Lib.hid hf9
  have HE9 := Lib.hid he9
  have HS9 := Lib.hid hs9
  have HT9 := Lib.hid ht9
  have k7 : (k == 7) = false := beq_eq_false_iff_ne.2 hk
  have HK := Lib.hid hk
  clear hk
  clear he hs hl hW1 hf9 he9 hs9 hk9 hbx ht9
  unfold geomV
  have h1i : ((fn : Int) % (s : Int) != 0) = true := by rw [bne_iff_ne, ← Int.natCast_emod]; omega
  clear h1
  go_enter Tryd.func33, Tryd.ntmps33
  go_wp2_with fail
  refine hst.mono ?_
  rintro en1 w1 ⟨rfl, rfl⟩
  clear hst
  go_wp2_with fail
  go_ret
  exact ⟨_, rfl, GoodOk.bad _ _ _ _ _ _ _ _ _, hB⟩

set_option maxRecDepth 100000 in
set_option maxHeartbeats 3200000 in
theorem good_no2 (k l q : Int) (fa ea sa ka : Option Addr) (fn fc en ec sn sc kn kc s : Nat) (e : Nat → Int) (m : Nat → Nat) (ee : Nat → Nat → Int) (w : World) (hk : k ≠ 7) (hl : strideI l = (s : Int)) (he : IRow w ea en e) (hs : LRow w sa sn m ee)
    (hf9 : fn ≤ 9223372036854775807) (he9 : en ≤ 9223372036854775807) (hs9 : sn ≤ 9223372036854775807) (hk9 : kn ≤ 9223372036854775807) (ht9 : s ≤ 9223372036854775807) (h0 : ¬ s = 0) (h1 : fn % s = 0) (h2 : 0 < kn) :
    Calls Tryd.prog 33 #[geomV k l q (.slice fa fn fc) (.slice ea en ec) (.slice sa sn sc) (.slice ka kn kc)] w fun en' w' => ∃ b, en' = .returned (.bool b) ∧ GoodOk k fn en sn kn s e m ee b ∧ Below w.heap.size w w' := by
  obtain ⟨hbx, hB⟩ := boxed w k l q (.slice fa fn fc) (.slice ea en ec) (.slice sa sn sc) (.slice ka kn kc)
  obtain ⟨W1, hW1⟩ : ∃ W1, (w.alloc (.cells #[.int .i64 k, .int .i64 l, .int .i64 q, .slice fa fn fc, .slice ea en ec, .slice sa sn sc, .slice ka kn kc] 33)) = W1 := ⟨_, rfl⟩
  have hst : Calls Tryd.prog 36 #[.int .i64 l] (w.alloc (.cells #[.int .i64 k, .int .i64 l, .int .i64 q, .slice fa fn fc, .slice ea en ec, .slice sa sn sc, .slice ka kn kc] 33)) fun e w' => e = .returned (.int .i64 s) ∧ W1 = w' :=
    (stride_any l _).mono fun e w' h => ⟨by rw [h.1, hl], by rw [← h.2, hW1]⟩
  rw [hW1] at hbx hB
  have HE := Lib.hid (he.below hB)
  have HS := Lib.hid (hs.below hB)
  obtain ⟨c0, c1, c2, c3, c4, c5, c6⟩ := hbx.cells7
  have b1 : (fn : Int) ≤ 9223372036854775807 := by omega
  have b2 : (en : Int) ≤ 9223372036854775807 := by omega
  have b3 : (sn : Int) ≤ 9223372036854775807 := by omega
  have b4 : (kn : Int) ≤ 9223372036854775807 := by omega
  have b5 : (s : Int) ≤ 9223372036854775807 := by omega
  have HF9 := Lib.hid hf9
  have HE9 := Lib.hid he9
  have HS9 := Lib.hid hs9
  have HT9 := Lib.hid ht9
  have k7 : (k == 7) = false := beq_eq_false_iff_ne.2 hk
  have HK := Lib.hid hk
  clear hk
  clear he hs hl hW1 hf9 he9 hs9 hk9 hbx ht9
  unfold geomV
  have h1i : ((fn : Int) % (s : Int) != 0) = false := by rw [← Int.natCast_emod, h1]; rfl
  clear h1
  go_enter Tryd.func33, Tryd.ntmps33
  go_wp2_with fail
  refine hst.mono ?_
  rintro en1 w1 ⟨rfl, rfl⟩
  clear hst
  go_wp2_with fail
  go_ret
  exact ⟨_, rfl, GoodOk.bad _ _ _ _ _ _ _ _ _, hB⟩

set_option maxRecDepth 100000 in
set_option maxHeartbeats 3200000 in
theorem good_no3 (k l q : Int) (fa ea sa ka : Option Addr) (fn fc en ec sn sc kn kc s : Nat) (e : Nat → Int) (m : Nat → Nat) (ee : Nat → Nat → Int) (w : World) (hk : k ≠ 7) (hl : strideI l = (s : Int)) (he : IRow w ea en e) (hs : LRow w sa sn m ee)
    (hf9 : fn ≤ 9223372036854775807) (he9 : en ≤ 9223372036854775807) (hs9 : sn ≤ 9223372036854775807) (hk9 : kn ≤ 9223372036854775807) (ht9 : s ≤ 9223372036854775807) (h0 : ¬ s = 0) (h1 : fn % s = 0) (h2 : ¬ 0 < kn) (h3 : 0 < sn) (h4 : k ≠ 6) :
    Calls Tryd.prog 33 #[geomV k l q (.slice fa fn fc) (.slice ea en ec) (.slice sa sn sc) (.slice ka kn kc)] w fun en' w' => ∃ b, en' = .returned (.bool b) ∧ GoodOk k fn en sn kn s e m ee b ∧ Below w.heap.size w w' := by
  obtain ⟨hbx, hB⟩ := boxed w k l q (.slice fa fn fc) (.slice ea en ec) (.slice sa sn sc) (.slice ka kn kc)
  obtain ⟨W1, hW1⟩ : ∃ W1, (w.alloc (.cells #[.int .i64 k, .int .i64 l, .int .i64 q, .slice fa fn fc, .slice ea en ec, .slice sa sn sc, .slice ka kn kc] 33)) = W1 := ⟨_, rfl⟩
  have hst : Calls Tryd.prog 36 #[.int .i64 l] (w.alloc (.cells #[.int .i64 k, .int .i64 l, .int .i64 q, .slice fa fn fc, .slice ea en ec, .slice sa sn sc, .slice ka kn kc] 33)) fun e w' => e = .returned (.int .i64 s) ∧ W1 = w' :=
    (stride_any l _).mono fun e w' h => ⟨by rw [h.1, hl], by rw [← h.2, hW1]⟩
  rw [hW1] at hbx hB
  have HE := Lib.hid (he.below hB)
  have HS := Lib.hid (hs.below hB)
  obtain ⟨c0, c1, c2, c3, c4, c5, c6⟩ := hbx.cells7
  have b1 : (fn : Int) ≤ 9223372036854775807 := by omega
  have b2 : (en : Int) ≤ 9223372036854775807 := by omega
  have b3 : (sn : Int) ≤ 9223372036854775807 := by omega
  have b4 : (kn : Int) ≤ 9223372036854775807 := by omega
  have b5 : (s : Int) ≤ 9223372036854775807 := by omega
  have HF9 := Lib.hid hf9
  have HE9 := Lib.hid he9
  have HS9 := Lib.hid hs9
  have HT9 := Lib.hid ht9
  have k7 : (k == 7) = false := beq_eq_false_iff_ne.2 hk
  have HK := Lib.hid hk
  clear hk
  clear he hs hl hW1 hf9 he9 hs9 hk9 hbx ht9
  unfold geomV
  have h1i : ((fn : Int) % (s : Int) != 0) = false := by rw [← Int.natCast_emod, h1]; rfl
  have h4i : (k != 6) = true := bne_iff_ne.2 h4
  clear h1 h4
  go_enter Tryd.func33, Tryd.ntmps33
  go_wp2_with fail
  refine hst.mono ?_
  rintro en1 w1 ⟨rfl, rfl⟩
  clear hst
  go_wp2_with fail
  go_ret
  exact ⟨_, rfl, GoodOk.bad _ _ _ _ _ _ _ _ _, hB⟩

set_option maxRecDepth 100000 in
set_option maxHeartbeats 3200000 in
theorem good_no4 (k l q : Int) (fa ea sa ka : Option Addr) (fn fc en ec sn sc kn kc s : Nat) (e : Nat → Int) (m : Nat → Nat) (ee : Nat → Nat → Int) (w : World) (hk : k ≠ 7) (hl : strideI l = (s : Int)) (he : IRow w ea en e) (hs : LRow w sa sn m ee)
    (hf9 : fn ≤ 9223372036854775807) (he9 : en ≤ 9223372036854775807) (hs9 : sn ≤ 9223372036854775807) (hk9 : kn ≤ 9223372036854775807) (ht9 : s ≤ 9223372036854775807) (h0 : ¬ s = 0) (h1 : fn % s = 0) (h2 : ¬ 0 < kn) (h3 : ¬ 0 < sn) (h4 : k ≠ 1 ∧ k ≠ 2 ∧ k ≠ 8 ∧ k ≠ 3 ∧ k ≠ 4 ∧ k ≠ 5 ∧ k ≠ 6) :
    Calls Tryd.prog 33 #[geomV k l q (.slice fa fn fc) (.slice ea en ec) (.slice sa sn sc) (.slice ka kn kc)] w fun en' w' => ∃ b, en' = .returned (.bool b) ∧ GoodOk k fn en sn kn s e m ee b ∧ Below w.heap.size w w' := by
  obtain ⟨hbx, hB⟩ := boxed w k l q (.slice fa fn fc) (.slice ea en ec) (.slice sa sn sc) (.slice ka kn kc)
  obtain ⟨W1, hW1⟩ : ∃ W1, (w.alloc (.cells #[.int .i64 k, .int .i64 l, .int .i64 q, .slice fa fn fc, .slice ea en ec, .slice sa sn sc, .slice ka kn kc] 33)) = W1 := ⟨_, rfl⟩
  have hst : Calls Tryd.prog 36 #[.int .i64 l] (w.alloc (.cells #[.int .i64 k, .int .i64 l, .int .i64 q, .slice fa fn fc, .slice ea en ec, .slice sa sn sc, .slice ka kn kc] 33)) fun e w' => e = .returned (.int .i64 s) ∧ W1 = w' :=
    (stride_any l _).mono fun e w' h => ⟨by rw [h.1, hl], by rw [← h.2, hW1]⟩
  rw [hW1] at hbx hB
  have HE := Lib.hid (he.below hB)
  have HS := Lib.hid (hs.below hB)
  obtain ⟨c0, c1, c2, c3, c4, c5, c6⟩ := hbx.cells7
  have b1 : (fn : Int) ≤ 9223372036854775807 := by omega
  have b2 : (en : Int) ≤ 9223372036854775807 := by omega
  have b3 : (sn : Int) ≤ 9223372036854775807 := by omega
  have b4 : (kn : Int) ≤ 9223372036854775807 := by omega
  have b5 : (s : Int) ≤ 9223372036854775807 := by omega
  have HF9 := Lib.hid hf9
  have HE9 := Lib.hid he9
  have HS9 := Lib.hid hs9
  have HT9 := Lib.hid ht9
  have k7 : (k == 7) = false := beq_eq_false_iff_ne.2 hk
  have HK := Lib.hid hk
  clear hk
  clear he hs hl hW1 hf9 he9 hs9 hk9 hbx ht9
  unfold geomV
  have h1i : ((fn : Int) % (s : Int) != 0) = false := by rw [← Int.natCast_emod, h1]; rfl
  have k1 : (k == 1) = false := beq_eq_false_iff_ne.2 h4.1
  have k2 : (k == 2) = false := beq_eq_false_iff_ne.2 h4.2.1
  have k8 : (k == 8) = false := beq_eq_false_iff_ne.2 h4.2.2.1
  have k3 : (k == 3) = false := beq_eq_false_iff_ne.2 h4.2.2.2.1
  have k4 : (k == 4) = false := beq_eq_false_iff_ne.2 h4.2.2.2.2.1
  have k5 : (k == 5) = false := beq_eq_false_iff_ne.2 h4.2.2.2.2.2.1
  have k6 : (k == 6) = false := beq_eq_false_iff_ne.2 h4.2.2.2.2.2.2
  clear h1 h4
  go_enter Tryd.func33, Tryd.ntmps33
  go_wp2_with fail
  refine hst.mono ?_
  rintro en1 w1 ⟨rfl, rfl⟩
  clear hst
  go_wp2_with fail
  go_ret
  exact ⟨_, rfl, GoodOk.bad _ _ _ _ _ _ _ _ _, hB⟩

set_option maxRecDepth 100000 in
set_option maxHeartbeats 3200000 in
theorem good_plain (k l q : Int) (fa ea sa ka : Option Addr) (fn fc en ec sn sc kn kc s : Nat) (e : Nat → Int) (m : Nat → Nat) (ee : Nat → Nat → Int) (w : World) (hk : k ≠ 7) (hl : strideI l = (s : Int)) (he : IRow w ea en e) (hs : LRow w sa sn m ee)
    (hf9 : fn ≤ 9223372036854775807) (he9 : en ≤ 9223372036854775807) (hs9 : sn ≤ 9223372036854775807) (hk9 : kn ≤ 9223372036854775807) (ht9 : s ≤ 9223372036854775807) :
    Calls Tryd.prog 33 #[geomV k l q (.slice fa fn fc) (.slice ea en ec) (.slice sa sn sc) (.slice ka kn kc)] w fun en' w' => ∃ b, en' = .returned (.bool b) ∧ GoodOk k fn en sn kn s e m ee b ∧ Below w.heap.size w w' := by
  by_cases h0 : s = 0
  · exact good_no0 k l q fa ea sa ka fn fc en ec sn sc kn kc s e m ee w hk hl he hs hf9 he9 hs9 hk9 ht9 h0
  by_cases h1 : fn % s = 0
  rotate_left
  · exact good_no1 k l q fa ea sa ka fn fc en ec sn sc kn kc s e m ee w hk hl he hs hf9 he9 hs9 hk9 ht9 h0 h1
  by_cases h2 : 0 < kn
  · exact good_no2 k l q fa ea sa ka fn fc en ec sn sc kn kc s e m ee w hk hl he hs hf9 he9 hs9 hk9 ht9 h0 h1 h2
  have h2' : kn = 0 := by omega
  by_cases k6 : k = 6
  · subst k6
    exact good_areas l q fa ea sa ka fn fc en ec sn sc kn kc s e m ee w hl he hs hf9 he9 hs9 hk9 ht9 h0 h1 h2'
  by_cases h3 : 0 < sn
  · exact good_no3 k l q fa ea sa ka fn fc en ec sn sc kn kc s e m ee w hk hl he hs hf9 he9 hs9 hk9 ht9 h0 h1 h2 h3 k6
  have h3' : sn = 0 := by omega
  by_cases k1 : k = 1
  · subst k1
    exact good_point l q fa ea sa ka fn fc en ec sn sc kn kc s e m ee w hl he hs hf9 he9 hs9 hk9 ht9 h0 h1 h2' h3'
  by_cases k2 : k = 2
  · subst k2
    exact good_line l q fa ea sa ka fn fc en ec sn sc kn kc s e m ee w hl he hs hf9 he9 hs9 hk9 ht9 h0 h1 h2' h3'
  by_cases k8 : k = 8
  · subst k8
    exact good_ring l q fa ea sa ka fn fc en ec sn sc kn kc s e m ee w hl he hs hf9 he9 hs9 hk9 ht9 h0 h1 h2' h3'
  by_cases k3 : k = 3
  · subst k3
    exact good_polygon l q fa ea sa ka fn fc en ec sn sc kn kc s e m ee w hl he hs hf9 he9 hs9 hk9 ht9 h0 h1 h2' h3'
  by_cases k4 : k = 4
  · subst k4
    exact good_points l q fa ea sa ka fn fc en ec sn sc kn kc s e m ee w hl he hs hf9 he9 hs9 hk9 ht9 h0 h1 h2' h3'
  by_cases k5 : k = 5
  · subst k5
    exact good_lines l q fa ea sa ka fn fc en ec sn sc kn kc s e m ee w hl he hs hf9 he9 hs9 hk9 ht9 h0 h1 h2' h3'
  exact good_no4 k l q fa ea sa ka fn fc en ec sn sc kn kc s e m ee w hk hl he hs hf9 he9 hs9 hk9 ht9 h0 h1 h2 h3 ⟨k1, k2, k8, k3, k4, k5, k6⟩
end Go.Proofs.YtodihpaabkplhaaDoor
