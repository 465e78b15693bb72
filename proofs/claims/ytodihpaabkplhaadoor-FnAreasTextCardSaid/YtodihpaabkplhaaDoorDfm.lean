/- writeFlatCoords2. DoorFlat2, impl.LinesText. -/
import Derived.Test.YtodihpaabkplhaaDoorFlw
import Derived.Test.YtodihpaabkplhaaDoorDco

namespace Go.Proofs.YtodihpaabkplhaaDoor
open Go.RowKit

set_option maxRecDepth 100000 in
set_option maxHeartbeats 3200000 in
theorem writeFlat2_any (cb co b eb n k s cap ec st : Nat) (ao eo : Option Addr) (l : List UInt8) (xs e : Nat → Nat) (d : Int) (W w : World) (T : Tabs cb co W) (hW : Below W.heap.size W w) (hb : Bld w W.heap.size b l) (he : EncAt w eb d) (heb : eb ≠ b) (hr : FRowO W ao n xs)
    (hie : IRow W eo k (fun i => (e i : Int))) (hE : EndsUp s st e k) (hto : fromE st e k ≤ n) (hs : 1 ≤ s) (hcap : n ≤ cap) (hcm : cap ≤ maxLen) (p0 : -1 ≤ d) (p1 : d ≤ 20) (hlen : l.length + (n * 20006 + k * 9 + 2) ≤ 100000000) :
    Calls Tryd.prog 56 #[.pointer (some ⟨eb, 0, none⟩), .pointer (some ⟨b, 0, none⟩), .slice ao n cap, .int .i64 st, .slice eo k ec, .int .i64 s] w fun en w' => en = .returned .nilIface ∧ Bld w' W.heap.size b (l ++ linesB xs d s st e k) ∧ Below W.heap.size w w' ∧ Kept b w w' := by
  obtain ⟨B, hBe⟩ : ∃ B, W.heap.size = B := ⟨_, rfl⟩
  have hjl : ∀ q, q ≤ k → (l ++ [40] ++ joinB (fun i => lineB xs d s (fromE st e i) (e i)) q).length + (n - fromE st e q) * 20006 + (k - q) * 9 + 1 ≤ 100000000 := by
    intro q hq
    have h1 := join_parts_length hE (fun i => lineB xs d s (fromE st e i) (e i)) (fun i hi => lineB_length xs d s _ _ p0 p1 hs (hE i hi).2) q hq
    have h2 := hE.le q k hq (Nat.le_refl _)
    have h3 := hE.st_le q hq
    rw [List.length_append, List.length_append, List.length_singleton]
    omega
  have hcmI : (cap : Int) ≤ 9223372036854775807 := by unfold maxLen at hcm; omega
  have hkI : (k : Int) ≤ 100000000 := by omega
  have HJL := Lib.hid hjl
  have HT := Lib.hid T
  have HR := Lib.hid hr
  have HW := Lib.hid hW
  have HE := Lib.hid hE
  have HIE := Lib.hid hie
  have HTO := Lib.hid hto
  have HM := Lib.hid hcm
  rw [hBe] at hb ⊢
  have HBe := Lib.hid hBe
  have hws := writeRune_any B b l 40 w (by decide) hb (by omega) (hBe ▸ hW.size)
  clear hlen T hr hW hb hcm hBe hE hie hto hjl
  go_enter Tryd.func56, Tryd.ntmps56
  go_wp2_with fail
  refine hws.mono ?_
  rintro en w1 ⟨rfl, hb1, hB1, hk1⟩
  clear hws
  go_wp2_with fail
  go_loopg [33, 3] k (fun m v vs wr => ∃ q : Nat, q + m = k ∧ v = .int .i64 (q : Int) ∧ vs = .int .i64 ((fromE st e q : Nat) : Int) ∧ Bld wr B b (l ++ [40] ++ joinB (fun i => lineB xs d s (fromE st e i) (e i)) q) ∧ Below B w wr ∧ Kept b w wr)
  case atStart => exact ⟨0, by omega, rfl, rfl, by simpa [joinB] using hb1, hB1, hk1⟩
  case round =>
    clear hb1 hB1 hk1
    obtain ⟨q, hq, rfl, rfl, hb, hB, hk⟩ := hrel
    have hBs : B ≤ wr.heap.size := by
      have := HBe.out; subst this
      exact Nat.le_trans HW.out.size hB.size
    have hjq := HJL.out q (by omega)
    have hqk : (q : Int) ≤ (k : Int) := by omega
    cases gk with
    | zero =>
      have hws := writeRune_any B b _ 41 wr (by decide) hb (by omega) hBs
      obtain ⟨a, ha⟩ : ∃ a, fromE st e q = a := ⟨_, rfl⟩
      rw [ha]
      have hqk2 : q = k := by omega
      have HQK := Lib.hid hqk2
      have hlt : ¬ (q : Int) < (k : Int) := by omega
      clear hb hjq ha hqk2
      go_wp2_with fail
      refine hws.mono ?_
      rintro en w2 ⟨rfl, hb2, hB2, hk2⟩
      clear hws
      go_wp2
      go_ret
      refine ⟨rfl, ?_, hB.trans hB2, hk.trans hk2⟩
      show Bld w2 B b (l ++ brackB _ k)
      rw [brackB, ← HQK.out]
      simpa using hb2
    | succ m =>
      have hWr : Below W.heap.size W wr := HW.out.trans (HBe.out ▸ hB)
      obtain ⟨ib, io, rfl, hcel⟩ := HIE.out (by omega)
      have ce := cell_kept hWr (hcel q (by omega)).1
      change _ = some (Value.int .i64 ((e q : Nat) : Int)) at ce
      have hE1 := HE.out q (by omega)
      have hz9 := HE.out.le (q + 1) k (by omega) (Nat.le_refl _)
      rw [fromE_succ] at hz9
      have hto := HTO.out
      have hf1 : fromE st e (q + 1) = e q := fromE_succ _ _ _
      have hJ1 : joinB (fun i => lineB xs d s (fromE st e i) (e i)) (q + 1) = joinB (fun i => lineB xs d s (fromE st e i) (e i)) q ++ sepB q ++ lineB xs d s (fromE st e q) (e q) := rfl
      obtain ⟨a, ha⟩ : ∃ a, fromE st e q = a := ⟨_, rfl⟩
      obtain ⟨z, hz⟩ : ∃ z, e q = z := ⟨_, rfl⟩
      rw [ha] at hE1 hjq hJ1 ⊢
      rw [hz] at hE1 hz9 hf1 ce hJ1
      obtain ⟨haz, hmo⟩ := hE1
      have HMO := Lib.hid hmo
      have HF1 := Lib.hid hf1
      have HJ := Lib.hid hJ1
      have heN := he.kept hk heb
      obtain ⟨L, hL⟩ : ∃ L, l ++ [40] ++ joinB (fun i => lineB xs d s (fromE st e i) (e i)) q = L := ⟨_, rfl⟩
      rw [hL] at hb hjq
      have HLL := Lib.hid hL
      have HLl := Lib.hid hjq
      have hzn : z ≤ n := by omega
      have hlt : (q : Int) < (k : Int) := by omega
      clear hcel hz9 hto hf1 hJ1 ha hz hmo hL hjq
      go_upto_if 39 with fail
      go_cut [] (fun wx => Bld wx B b (L ++ sepB q) ∧ Below B wr wx ∧ Kept b wr wx)
      case first =>
        clear ce
        by_cases h0 : q = 0
        · subst h0
          have z0 : ((0 : Nat) : Int) = 0 := rfl
          rw [z0]
          clear z0
          go_wp2
          go_meet
          exact ⟨by simpa [sepB] using hb, Below.refl _ _, Kept.refl _ _⟩
        · have h1 : ((q : Int) == 0) = false := by rw [beq_eq_false_iff_ne]; omega
          have hws := writeString_any B b L [44, 32] wr hb (by have := HLl.out; simp; omega) hBs
          change Calls _ _ #[_, .string ⟨#[44, 32]⟩] _ _ at hws
          have HQ0 := Lib.hid h0
          clear hb hB hk heN h0
          go_wp2_with fail
          refine hws.mono ?_
          rintro en w2 ⟨rfl, hb2, hB2, hk2⟩
          clear hws
          go_wp2
          go_meet
          refine ⟨?_, hB2, hk2⟩
          rw [sepB_pos HQ0.out]
          exact hb2
      case rest =>
        obtain ⟨hb2, hB2, hk2⟩ := hcut
        rename_i K hK
        refine hK _ _ ?_
        clear hK hb
        by_cases hza : z ≤ a
        · have hzaI : (z : Int) ≤ (a : Int) := by omega
          have hwc := writeEMPTY_any B b (.pointer (some ⟨eb, 0, none⟩)) (L ++ sepB q) wc hb2 (by have := HLl.out; have h3 := sepB_length q; rw [List.length_append]; omega) (Nat.le_trans hBs hB2.size)
          have hpt : lineB xs d s a z = emptyB := if_pos hza
          have HP := Lib.hid hpt
          clear hb2 heN ce hza hpt haz hzn
          go_wp2_with fail
          refine hwc.mono ?_
          rintro en w2 ⟨rfl, hb3, hB3, hk3⟩
          clear hwc
          go_wp2
          go_roundg m
          case measure => omega
          case rel =>
            refine ⟨q + 1, by omega, rfl, by rw [HF1.out], ?_, (hB.trans hB2).trans hB3, (hk.trans hk2).trans hk3⟩
            rw [HJ.out, HP.out, ← List.append_assoc, ← List.append_assoc, HLL.out]
            exact hb3
        · have hzaI : ¬ (z : Int) ≤ (a : Int) := by omega
          obtain ⟨fb, fo, rfl, hx⟩ := HR.out (by omega)
          have hpt : lineB xs d s a z = flatB (fun j => xs (a + j)) d s ((z - a) / s) := if_neg hza
          have HP := Lib.hid hpt
          have hwc := writeFlat1_any cb co b eb fb (fo + a) (z - a) ((z - a) / s) s (cap - a) (L ++ sepB q) (fun j => xs (a + j)) d W wc HT.out (hWr.trans (HBe.out ▸ hB2)) (HBe.out.symm ▸ hb2) (heN.kept hk2 heb) heb (FRow.sub hx a (z - a) (by omega))
            (by have h := HMO.out; have := Nat.div_add_mod (z - a) s; rw [h, Nat.add_zero, Nat.mul_comm] at this; exact this.symm) hs (by omega) (by have := HM.out; omega) p0 p1
            (by have := HLl.out; have h3 := sepB_length q; rw [List.length_append]; omega)
          have hbe := HBe.out
          rw [hbe] at hwc
          have h1 : (a : Int) ≤ (z : Int) := by omega
          have h2 : (z : Int) ≤ (cap : Int) := by omega
          have hne : ¬ cap = a := by omega
          have hsb : ((z : Int) - (a : Int)).toNat = z - a := by omega
          have HZA := Lib.hid hza
          clear hbe hb2 heN ce hpt hx hza hzn haz
          go_wp2_with fail
          refine hwc.mono ?_
          rintro en w2 ⟨rfl, hb3, hB3, hk3⟩
          clear hwc
          go_wp2
          go_roundg m
          case measure => omega
          case rel =>
            refine ⟨q + 1, by omega, rfl, by rw [HF1.out], ?_, (hB.trans hB2).trans hB3, (hk.trans hk2).trans hk3⟩
            rw [HJ.out, HP.out, ← List.append_assoc, ← List.append_assoc, HLL.out]
            exact hb3
end Go.Proofs.YtodihpaabkplhaaDoor

namespace Go.Proofs.YtodihpaabkplhaaDoor
open Go.RowKit

set_option maxRecDepth 100000 in
set_option maxHeartbeats 800000 in
theorem doorFlat2_any (cb co n k s cap ec : Nat) (ao eo : Option Addr) (xs e : Nat → Nat) (digits : Int) (w : World) (T : Tabs cb co w) (hr : FRowO w ao n xs) (hie : IRow w eo k (fun i => (e i : Int))) (hE : EndsUp s 0 e k) (hto : fromE 0 e k ≤ n) (hs : 1 ≤ s) (hcap : n ≤ cap) (hcm : cap ≤ maxLen) (p0 : -1 ≤ digits) (p1 : digits ≤ 20) (hlen : n * 20006 + k * 9 + 2 ≤ 100000000) :
    Calls Tryd.prog 41 #[.slice ao n cap, .slice eo k ec, .int .i64 s, .int .i64 digits] w fun en9 w' => en9 = .returned (.tuple #[.string (str (linesB xs digits s 0 e k)), .nilIface]) ∧ Below w.heap.size w w' := by
  obtain ⟨W1, hW1, hb, he, hB, hsz⟩ := fresh_pair w digits
  have hwc := writeFlat2_any cb co w.heap.size (w.heap.size + 1) n k s cap ec 0 ao eo [] xs e digits w W1 T hB hb he (by omega) hr hie hE hto hs hcap hcm p0 p1 (by simp; omega)
  rw [List.nil_append] at hwc
  obtain ⟨g, hg⟩ : ∃ g, w.heap.size = g := ⟨_, rfl⟩
  rw [hg] at hwc hB hsz ⊢
  obtain ⟨L, hL⟩ : ∃ L, (linesB xs digits s 0 e k) = L := ⟨_, rfl⟩
  rw [hL] at hwc ⊢
  clear hlen hto hE hie hr T hb he hL
  go_enter Tryd.func41, Tryd.ntmps41
  go_wp2_with fail
  refine hwc.mono ?_
  rintro en w2 ⟨rfl, hb2, hB2, _⟩
  clear hwc
  have hst := string_any g g L w2 hb2 (by have := hB.size; have := hB2.size; omega)
  go_wp2_with fail
  refine hst.mono ?_
  rintro en w3 ⟨rfl, hB3⟩
  clear hst
  go_wp2
  go_ret2
  exact ⟨rfl, (hB.trans hB2).trans hB3⟩

/-- The deferred closure, where nothing has panicked. -/
theorem LinesText_idle (p q : Addr) (w : World) :
    CallsD Tryd.prog 40 #[.pointer (some p), .pointer (some q)] .returning w fun e u' w' => e = .returned (.tuple #[]) ∧ u' = .returning ∧ w' = w := by
  refine callsD_of_wpS Tryd.func40 rfl fun c₀ cs hu => ?_
  apply wpS_seq
  apply wpS_region
  simp [wpOpsS, go_sem, recoverD, hu, Tryd.ntmps40, Exit.thenS]
  refine wpS_cond (t := false) (by simp [Act.eval, Array.replicate]) ?_
  simp only [Bool.false_eq_true, if_false]
  refine wpS_of_wp (wp_skip ?_)
  cases c₀
  simp_all [bodyPostS, results, Tryd.results40]

set_option maxRecDepth 100000 in
set_option maxHeartbeats 800000 in
theorem LinesText_any (cb co n k s cap ec : Nat) (ao eo : Option Addr) (xs e : Nat → Nat) (digits : Int) (w : World) (T : Tabs cb co w) (hr : FRowO w ao n xs) (hie : IRow w eo k (fun i => (e i : Int))) (hE : EndsUp s 0 e k) (hto : fromE 0 e k ≤ n) (hs : 1 ≤ s) (hcap : n ≤ cap) (hcm : cap ≤ maxLen) (p0 : -1 ≤ digits) (p1 : digits ≤ 20) (hlen : n * 20006 + k * 9 + 2 ≤ 100000000) :
    Calls Tryd.prog 21 #[.slice ao n cap, .slice eo k ec, .int .i64 s, .int .i64 digits] w fun en9 w' => en9 = .returned (.tuple #[.string (str (linesB xs digits s 0 e k)), .bool true]) ∧ Below w.heap.size w w' := by
  have hmf : ∀ (fn : Fn) (first cap : Array Value) (w : World), (Instr.makeFunc fn first cap).run Tryd.prog w = .ok (.func fn first cap) w := fun _ _ _ _ => rfl
  obtain ⟨g, hg⟩ : ∃ g, w.heap.size = g := ⟨_, rfl⟩
  obtain ⟨W1, hW1⟩ : ∃ W1, (w.alloc (.cells #[.string ⟨#[]⟩] 9)).alloc (.cells #[.bool false] 4) = W1 := ⟨_, rfl⟩
  have hB1 : Below g w W1 := hW1 ▸ ((Below.refl _ _).alloc (by omega) _).alloc (by show g ≤ (w.heap.push _).size; simp; omega) _
  have hbg : Below w.heap.size w W1 := hg ▸ hB1
  have hd := doorFlat2_any cb co n k s cap ec ao eo xs e digits W1 (T.below hbg) (hr.below hbg) (hie.below hbg) hE hto hs hcap hcm p0 p1 hlen
  obtain ⟨L, hL⟩ : ∃ L, (linesB xs digits s 0 e k) = L := ⟨_, rfl⟩
  rw [hL] at hd ⊢
  have hs1 : (w.alloc (.cells #[.string ⟨#[]⟩] 9)).heap.size = g + 1 := by show (w.heap.push _).size = _; simp; exact hg
  have c1 : W1.heap[g]? = some (.cells #[.string ⟨#[]⟩] 9 (0, 0)) := by
    rw [← hW1, Below.heap_alloc _ _ g (by omega), ← hg]
    exact heap_new _ _
  have c2 : W1.heap[g + 1]? = some (.cells #[.bool false] 4 (0, 0)) := by
    rw [← hW1, ← hs1]
    exact heap_new _ _
  clear hlen hto hE hie hr T hL hs1 hbg
  go_enter_defers Tryd.func21, Tryd.ntmps21
  go_wp2_with fail
  refine hd.mono ?_
  rintro en w2 ⟨rfl, hB2⟩
  clear hd hW1
  have k1 : w2.heap[g]? = some (.cells #[.string ⟨#[]⟩] 9 (0, 0)) := (hB2.block g (heap_lt c1)).trans c1
  have k2 : w2.heap[g + 1]? = some (.cells #[.bool false] 4 (0, 0)) := (hB2.block (g + 1) (heap_lt c2)).trans c2
  have d1 : w2.cell? ⟨g, 0, none⟩ = some (.string ⟨#[]⟩) := by rw [Lib.cell_of_heap k1]; rfl
  have d2 : w2.cell? ⟨g + 1, 0, none⟩ = some (.bool false) := by rw [Lib.cell_of_heap k2]; rfl
  have f1 : w2.frozen? ⟨g, 0, none⟩ = false := Lib.frozen_of_heap k1 0
  have f2 : w2.frozen? ⟨g + 1, 0, none⟩ = false := Lib.frozen_of_heap k2 0
  have hB3 : Below g w w2 := hB1.trans (hB2.mono (by have := hB1.size; omega))
  clear k1 k2 c1 c2 hB1 hB2
  go_wp2
  go_region
  all_goals go_wp2
  refine leaves_cons (f := 40) (args := #[.pointer (some ⟨g, 0, none⟩), .pointer (some ⟨g + 1, 0, none⟩)]) (by simp) (by simp [go_sem]) ?_
  refine (LinesText_idle ⟨g, 0, none⟩ ⟨g + 1, 0, none⟩ _).mono ?_
  rintro e u' w'' ⟨rfl, rfl, rfl⟩
  have hBf : Below g w (((w2.setCell ⟨g, 0, none⟩ (.string (str L))).setCell ⟨g, 0, none⟩ (.string (str L))).setCell ⟨g + 1, 0, none⟩ (.bool true)).drew := (((hB3.setCell (p := ⟨g, 0, none⟩) (Nat.le_refl _) _).setCell (p := ⟨g, 0, none⟩) (Nat.le_refl _) _).setCell (p := ⟨g + 1, 0, none⟩) (Nat.le_succ _) _).drew
  simp [Leaves, settle, results, Tryd.results21, go_sem, d1, d2]
  rw [hg]
  exact hBf
end Go.Proofs.YtodihpaabkplhaaDoor
