/- writeFlatCoords1Ends. -/
import Derived.Test.YtodihpaabkplhaaDoorFlw
namespace Go.Proofs.YtodihpaabkplhaaDoor
open Go.RowKit

set_option maxRecDepth 100000 in
set_option maxHeartbeats 3200000 in
theorem writeEnds_any (cb co b eb n k s cap ec st : Nat) (ao eo : Option Addr) (l : List UInt8) (xs e : Nat → Nat) (d : Int) (W w : World) (T : Tabs cb co W) (hW : Below W.heap.size W w) (hb : Bld w W.heap.size b l) (he : EncAt w eb d) (heb : eb ≠ b) (hr : FRowO W ao n xs)
    (hie : IRow W eo k (fun i => (e i : Int))) (hE : EndsUp s st e k) (hto : fromE st e k ≤ n) (hcap : n ≤ cap) (hcm : cap ≤ maxLen) (p0 : -1 ≤ d) (p1 : d ≤ 20) (hlen : l.length + (n * 20006 + k * 9 + 2) ≤ 100000000) :
    Calls Tryd.prog 55 #[.pointer (some ⟨eb, 0, none⟩), .pointer (some ⟨b, 0, none⟩), .slice ao n cap, .int .i64 st, .slice eo k ec] w fun en w' => en = .returned .nilIface ∧ Bld w' W.heap.size b (l ++ pointsB xs d st e k) ∧ Below W.heap.size w w' ∧ Kept b w w' := by
  obtain ⟨B, hBe⟩ : ∃ B, W.heap.size = B := ⟨_, rfl⟩
  have hjl : ∀ q, q ≤ k → (l ++ [40] ++ joinB (fun i => pointB xs d (fromE st e i) (e i)) q).length + (n - fromE st e q) * 20006 + (k - q) * 9 + 1 ≤ 100000000 := by
    intro q hq
    have h1 := join_parts_length hE (fun i => pointB xs d (fromE st e i) (e i)) (fun i _ => pointB_length xs d _ _ p0 p1) q hq
    have h2 := hE.le q k hq (Nat.le_refl _)
    have h3 := hE.st_le q hq
    rw [List.length_append, List.length_append, List.length_singleton]
    omega
  have hcmI : (cap : Int) ≤ 9223372036854775807 := by unfold maxLen at hcm; omega
  have hkI : (k : Int) ≤ 100000000 := by omega
  have HJL := Lib.hid hjl
  have HT := Lib.hid T
  have HR := Lib.hid hr
  have HW := Lib.hid hW
  have HE := Lib.hid hE
  have HIE := Lib.hid hie
  have HTO := Lib.hid hto
  have HM := Lib.hid hcm
  rw [hBe] at hb ⊢
  have HBe := Lib.hid hBe
  have hws := writeRune_any B b l 40 w (by decide) hb (by omega) (hBe ▸ hW.size)
  clear hlen T hr hW hb hcm hBe hE hie hto hjl
  go_enter Tryd.func55, Tryd.ntmps55
  go_wp2_with fail
  refine hws.mono ?_
  rintro en w1 ⟨rfl, hb1, hB1, hk1⟩
  clear hws
  go_wp2_with fail
  go_loopg [31, 3] k (fun m v vs wr => ∃ q : Nat, q + m = k ∧ v = .int .i64 (q : Int) ∧ vs = .int .i64 ((fromE st e q : Nat) : Int) ∧ Bld wr B b (l ++ [40] ++ joinB (fun i => pointB xs d (fromE st e i) (e i)) q) ∧ Below B w wr ∧ Kept b w wr)
  case atStart => exact ⟨0, by omega, rfl, rfl, by simpa [joinB] using hb1, hB1, hk1⟩
  case round =>
    clear hb1 hB1 hk1
    obtain ⟨q, hq, rfl, rfl, hb, hB, hk⟩ := hrel
    have hBs : B ≤ wr.heap.size := by
      have := HBe.out; subst this
      exact Nat.le_trans HW.out.size hB.size
    have hjq := HJL.out q (by omega)
    have hqk : (q : Int) ≤ (k : Int) := by omega
    cases gk with
    | zero =>
      have hws := writeRune_any B b _ 41 wr (by decide) hb (by omega) hBs
      obtain ⟨a, ha⟩ : ∃ a, fromE st e q = a := ⟨_, rfl⟩
      rw [ha]
      have hqk2 : q = k := by omega
      have HQK := Lib.hid hqk2
      have hlt : ¬ (q : Int) < (k : Int) := by omega
      clear hb hjq ha hqk2
      go_wp2_with fail
      refine hws.mono ?_
      rintro en w2 ⟨rfl, hb2, hB2, hk2⟩
      clear hws
      go_wp2
      go_ret
      refine ⟨rfl, ?_, hB.trans hB2, hk.trans hk2⟩
      show Bld w2 B b (l ++ brackB _ k)
      rw [brackB, ← HQK.out]
      simpa using hb2
    | succ m =>
      have hWr : Below W.heap.size W wr := HW.out.trans (HBe.out ▸ hB)
      obtain ⟨ib, io, rfl, hcel⟩ := HIE.out (by omega)
      have ce := cell_kept hWr (hcel q (by omega)).1
      change _ = some (Value.int .i64 ((e q : Nat) : Int)) at ce
      have hE1 := HE.out q (by omega)
      have hz9 := HE.out.le (q + 1) k (by omega) (Nat.le_refl _)
      rw [fromE_succ] at hz9
      have hto := HTO.out
      have hf1 : fromE st e (q + 1) = e q := fromE_succ _ _ _
      have hJ1 : joinB (fun i => pointB xs d (fromE st e i) (e i)) (q + 1) = joinB (fun i => pointB xs d (fromE st e i) (e i)) q ++ sepB q ++ pointB xs d (fromE st e q) (e q) := rfl
      obtain ⟨a, ha⟩ : ∃ a, fromE st e q = a := ⟨_, rfl⟩
      obtain ⟨z, hz⟩ : ∃ z, e q = z := ⟨_, rfl⟩
      rw [ha] at hE1 hjq hJ1 ⊢
      rw [hz] at hE1 hz9 hf1 ce hJ1
      obtain ⟨haz, hmo⟩ := hE1
      have HMO := Lib.hid hmo
      have HF1 := Lib.hid hf1
      have HJ := Lib.hid hJ1
      have heN := he.kept hk heb
      obtain ⟨L, hL⟩ : ∃ L, l ++ [40] ++ joinB (fun i => pointB xs d (fromE st e i) (e i)) q = L := ⟨_, rfl⟩
      rw [hL] at hb hjq
      have HLL := Lib.hid hL
      have HLl := Lib.hid hjq
      have hzn : z ≤ n := by omega
      have hlt : (q : Int) < (k : Int) := by omega
      clear hcel hz9 hto hf1 hJ1 ha hz hmo hL hjq
      go_upto_if 37 with fail
      go_cut [] (fun wx => Bld wx B b (L ++ sepB q) ∧ Below B wr wx ∧ Kept b wr wx)
      case first =>
        clear ce
        by_cases h0 : q = 0
        · subst h0
          have z0 : ((0 : Nat) : Int) = 0 := rfl
          rw [z0]
          clear z0
          go_wp2
          go_meet
          exact ⟨by simpa [sepB] using hb, Below.refl _ _, Kept.refl _ _⟩
        · have h1 : ((q : Int) == 0) = false := by rw [beq_eq_false_iff_ne]; omega
          have hws := writeString_any B b L [44, 32] wr hb (by have := HLl.out; simp; omega) hBs
          change Calls _ _ #[_, .string ⟨#[44, 32]⟩] _ _ at hws
          have HQ0 := Lib.hid h0
          clear hb hB hk heN h0
          go_wp2_with fail
          refine hws.mono ?_
          rintro en w2 ⟨rfl, hb2, hB2, hk2⟩
          clear hws
          go_wp2
          go_meet
          refine ⟨?_, hB2, hk2⟩
          rw [sepB_pos HQ0.out]
          exact hb2
      case rest =>
        obtain ⟨hb2, hB2, hk2⟩ := hcut
        rename_i K hK
        refine hK _ _ ?_
        clear hK hb
        by_cases hza : z ≤ a
        · have hzaI : (z : Int) ≤ (a : Int) := by omega
          have hwc := writeEMPTY_any B b (.pointer (some ⟨eb, 0, none⟩)) (L ++ sepB q) wc hb2 (by have := HLl.out; have h3 := sepB_length q; rw [List.length_append]; omega) (Nat.le_trans hBs hB2.size)
          have hpt : pointB xs d a z = emptyB := if_pos hza
          have HP := Lib.hid hpt
          clear hb2 heN ce hza hpt haz hzn
          go_wp2_with fail
          refine hwc.mono ?_
          rintro en w2 ⟨rfl, hb3, hB3, hk3⟩
          clear hwc
          go_wp2
          go_roundg m
          case measure => omega
          case rel =>
            refine ⟨q + 1, by omega, rfl, by rw [HF1.out], ?_, (hB.trans hB2).trans hB3, (hk.trans hk2).trans hk3⟩
            rw [HJ.out, HP.out, ← List.append_assoc, ← List.append_assoc, HLL.out]
            exact hb3
        · have hzaI : ¬ (z : Int) ≤ (a : Int) := by omega
          obtain ⟨fb, fo, rfl, hx⟩ := HR.out (by omega)
          have hpt : pointB xs d a z = coordB (fun j => xs (a + j)) d (z - a) := if_neg hza
          have HP := Lib.hid hpt
          have hwc := writeCoord_any cb co b eb fb (fo + a) (z - a) (cap - a) (L ++ sepB q) (fun j => xs (a + j)) d W wc HT.out (hWr.trans (HBe.out ▸ hB2)) (HBe.out.symm ▸ hb2) (heN.kept hk2 heb) heb (FRow.sub hx a (z - a) (by omega)) p0 p1
            (by have := HLl.out; have h3 := sepB_length q; rw [List.length_append]; omega)
          have hbe := HBe.out
          rw [hbe] at hwc
          have h1 : (a : Int) ≤ (z : Int) := by omega
          have h2 : (z : Int) ≤ (cap : Int) := by omega
          have hne : ¬ cap = a := by omega
          have hsb : ((z : Int) - (a : Int)).toNat = z - a := by omega
          have HZA := Lib.hid hza
          clear hbe hb2 heN ce hpt hx hza hzn haz
          go_wp2_with fail
          refine hwc.mono ?_
          rintro en w2 ⟨rfl, hb3, hB3, hk3⟩
          clear hwc
          go_wp2
          go_roundg m
          case measure => omega
          case rel =>
            refine ⟨q + 1, by omega, rfl, by rw [HF1.out], ?_, (hB.trans hB2).trans hB3, (hk.trans hk2).trans hk3⟩
            rw [HJ.out, HP.out, ← List.append_assoc, ← List.append_assoc, HLL.out]
            exact hb3
end Go.Proofs.YtodihpaabkplhaaDoor
