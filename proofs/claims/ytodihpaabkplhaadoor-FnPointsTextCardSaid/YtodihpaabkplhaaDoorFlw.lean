/- writeEMPTY, writeFlatCoords1: places in brackets. -/
import Derived.Test.YtodihpaabkplhaaDoorJoi
import Derived.Deep.DeepCutAuto
namespace Go.Proofs.YtodihpaabkplhaaDoor
open Go.RowKit

set_option maxRecDepth 100000 in
theorem writeEMPTY_any (B b : Nat) (ev : Value) (l : List UInt8) (w : World) (hb : Bld w B b l) (hl : l.length ≤ 100000000) (hBw : B ≤ w.heap.size) :
    Calls Tryd.prog 64 #[ev, .pointer (some ⟨b, 0, none⟩)] w fun en w' => en = .returned .nilIface ∧ Bld w' B b (l ++ emptyB) ∧ Below B w w' ∧ Kept b w w' := by
  have hws := writeString_any B b l emptyB w hb (by have : emptyB.length = 5 := rfl; omega) hBw
  change Calls _ _ #[_, .string ⟨#[69, 77, 80, 84, 89]⟩] _ _ at hws
  clear hb
  go_enter Tryd.func64, Tryd.ntmps64
  go_wp2_with fail
  refine hws.mono ?_
  rintro en w2 ⟨rfl, hb2, hB2, hk2⟩
  clear hws
  go_wp2
  go_ret
  exact ⟨rfl, hb2, hB2, hk2⟩

/-- Numbers in a row, none where there are none. -/
def FRowO (w : World) (ao : Option Addr) (n : Nat) (xs : Nat → Nat) : Prop := 0 < n → ∃ blk off, ao = some ⟨blk, off, none⟩ ∧ FRow w blk off n xs
theorem FRowO.below {w w' : World} {ao : Option Addr} {n : Nat} {xs : Nat → Nat} (h : FRowO w ao n xs) (hb : Below w.heap.size w w') : FRowO w' ao n xs := fun hn => by
  obtain ⟨blk, off, h1, h2⟩ := h hn
  exact ⟨blk, off, h1, fun i hi => ⟨cell_kept hb (h2 i hi).1, (h2 i hi).2⟩⟩
theorem FRow.sub {w : World} {blk off n : Nat} {xs : Nat → Nat} (h : FRow w blk off n xs) (i s : Nat) (hi : i + s ≤ n) : FRow w blk (off + i) s (fun j => xs (i + j)) := fun j hj => by
  have := h (i + j) (by omega)
  rw [← Nat.add_assoc] at this
  exact this

set_option maxRecDepth 100000 in
set_option maxHeartbeats 1600000 in
theorem writeFlat1_any (cb co b e blk off n k s cap : Nat) (l : List UInt8) (xs : Nat → Nat) (d : Int) (W w : World) (T : Tabs cb co W) (hW : Below W.heap.size W w) (hb : Bld w W.heap.size b l) (he : EncAt w e d) (heb : e ≠ b) (hr : FRow W blk off n xs)
    (hn : n = k * s) (hs : 1 ≤ s) (hcap : n ≤ cap) (hcm : cap ≤ maxLen) (p0 : -1 ≤ d) (p1 : d ≤ 20) (hlen : l.length + n * 20006 + 2 ≤ 100000000) :
    Calls Tryd.prog 49 #[.pointer (some ⟨e, 0, none⟩), .pointer (some ⟨b, 0, none⟩), .slice (some ⟨blk, off, none⟩) n cap, .int .i64 s] w fun en w' => en = .returned .nilIface ∧ Bld w' W.heap.size b (l ++ flatB xs d s k) ∧ Below W.heap.size w w' ∧ Kept b w w' := by
  obtain ⟨B, hBe⟩ : ∃ B, W.heap.size = B := ⟨_, rfl⟩
  have HLen := Lib.hid hlen
  have HT := Lib.hid T
  have HR := Lib.hid hr
  have HW := Lib.hid hW
  have HN := Lib.hid hn
  have HM := Lib.hid hcm
  rw [hBe] at hb ⊢
  have HBe := Lib.hid hBe
  have hws := writeRune_any B b l 40 w (by decide) hb (by omega) (hBe ▸ hW.size)
  clear hlen T hr hW hn hb hcm hBe
  go_enter Tryd.func49, Tryd.ntmps49
  go_wp2_with fail
  refine hws.mono ?_
  rintro en w1 ⟨rfl, hb1, hB1, hk1⟩
  clear hws
  go_wp2_with fail
  go_loopg [11] k (fun m v wr => ∃ q : Nat, q + m = k ∧ v = .int .i64 ((q * s : Nat) : Int) ∧ Bld wr B b (l ++ [40] ++ joinB (placeB xs d s) q) ∧ Below B w wr ∧ Kept b w wr)
  case atStart => exact ⟨0, by omega, by simp, by simpa [joinB] using hb1, hB1, hk1⟩
  case round =>
    clear hb1 hB1 hk1
    obtain ⟨q, hq, rfl, hb, hB, hk⟩ := hrel
    obtain ⟨i, hi⟩ : ∃ i, q * s = i := ⟨_, rfl⟩
    rw [hi]
    have hBs : B ≤ wr.heap.size := by
      have := HBe.out; subst this
      exact Nat.le_trans HW.out.size hB.size
    cases gk with
    | zero =>
      have hin : n = i := by rw [HN.out, ← hi]; congr 1; omega
      have hlt : ¬ (i : Int) < (n : Int) := by omega
      have hll : (l ++ [40] ++ joinB (placeB xs d s) q).length ≤ 100000000 := by
        have h1 := join_place_length xs d s p0 p1 q
        have h2 := HLen.out
        have h3 : q * (s * 20004 + 2) = q * s * 20004 + q * 2 := by rw [Nat.mul_add, ← Nat.mul_assoc]
        have h4 : q ≤ q * s := Nat.le_mul_of_pos_right q hs
        rw [List.length_append, List.length_append]
        simp
        rw [hi] at h3 h4
        omega
      have hws := writeRune_any B b _ 41 wr (by decide) hb hll hBs
      clear hb hll hin hi
      go_wp2_with fail
      refine hws.mono ?_
      rintro en w2 ⟨rfl, hb2, hB2, hk2⟩
      clear hws
      have hqk : q = k := by omega
      subst hqk
      go_wp2
      go_ret
      refine ⟨rfl, ?_, hB.trans hB2, hk.trans hk2⟩
      rw [flatB, brackB]
      simpa using hb2
    | succ m =>
      have hWr : Below W.heap.size W wr := HW.out.trans (HBe.out ▸ hB)
      have hin : i + s ≤ n := by
        have h1 : (q + 1) * s ≤ k * s := Nat.mul_le_mul_right s (by omega)
        have h2 := HN.out
        rw [Nat.succ_mul, hi] at h1
        omega
      have hc1 : joinB (placeB xs d s) (q + 1) = joinB (placeB xs d s) q ++ sepB q ++ coordB (fun j => xs (i + j)) d s := by rw [joinB, placeB, hi]
      have HC := Lib.hid hc1
      have hq1 : (q + 1) * s = i + s := by rw [Nat.succ_mul, hi]
      have HQ1 := Lib.hid hq1
      have hll : (l ++ [40] ++ joinB (placeB xs d s) q).length + s * 20004 + 2 ≤ 100000000 := by
        have h1 := join_place_length xs d s p0 p1 q
        have h2 := HLen.out
        have h3 : q * (s * 20004 + 2) = q * s * 20004 + q * 2 := by rw [Nat.mul_add, ← Nat.mul_assoc]
        have h4 : q ≤ q * s := Nat.le_mul_of_pos_right q hs
        rw [List.length_append, List.length_append]
        simp
        rw [hi] at h3 h4
        omega
      have heN := he.kept hk heb
      obtain ⟨L, hL⟩ : ∃ L, l ++ [40] ++ joinB (placeB xs d s) q = L := ⟨_, rfl⟩
      rw [hL] at hb hll
      have HLL := Lib.hid hL
      have HLl := Lib.hid hll
      have hi0 : (i = 0) ↔ (q = 0) := by
        constructor
        · intro h
          rcases Nat.eq_zero_or_pos q with h0 | h0
          · exact h0
          · have := Nat.le_mul_of_pos_right q hs
            omega
        · rintro rfl
          omega
      have HI0 := Lib.hid hi0
      have hil : (i : Int) < (n : Int) := by omega
      have his : (i : Int) + (s : Int) ≤ (n : Int) := by omega
      have hic : (i : Int) + (s : Int) ≤ (cap : Int) := by omega
      have hcm : (cap : Int) ≤ 9223372036854775807 := by have := HM.out; unfold maxLen at this; omega
      have hne : ¬ cap = i := by omega
      have hts : ((i : Int) + (s : Int) - (i : Int)).toNat = s := by omega
      have HTS := Lib.hid hts
      have HIN := Lib.hid hin
      clear hc1 hq1 hll hL hi hi0 hts hin
      go_upto_if 35 with fail
      go_cut [] (fun wx => Bld wx B b (L ++ sepB q) ∧ Below B wr wx ∧ Kept b wr wx)
      case first =>
        clear his hic hcm hne
        by_cases h0 : i = 0
        · have hq0 : q = 0 := HI0.out.1 h0
          subst h0
          have z0 : ((0 : Nat) : Int) = 0 := rfl
          rw [z0]
          clear z0
          have HQ0 := Lib.hid hq0
          clear hq0
          go_wp2
          go_meet
          rw [HQ0.out]
          exact ⟨by simpa [sepB] using hb, Below.refl _ _, Kept.refl _ _⟩
        · have h1 : ((i : Int) == 0) = false := by rw [beq_eq_false_iff_ne]; omega
          have hq0 : q ≠ 0 := fun h => h0 (HI0.out.2 h)
          have hws := writeString_any B b L [44, 32] wr hb (by have := HLl.out; simp; omega) hBs
          change Calls _ _ #[_, .string ⟨#[44, 32]⟩] _ _ at hws
          have HQ0 := Lib.hid hq0
          clear hb hB hk heN hq0 h0
          go_wp2_with fail
          refine hws.mono ?_
          rintro en w2 ⟨rfl, hb2, hB2, hk2⟩
          clear hws
          go_wp2
          go_meet
          refine ⟨?_, hB2, hk2⟩
          rw [sepB_pos HQ0.out]
          exact hb2
      case rest =>
        obtain ⟨hb2, hB2, hk2⟩ := hcut
        rename_i K hK
        refine hK _ _ ?_
        clear hK hb
        have hwc := writeCoord_any cb co b e blk (off + i) s (cap - i) (L ++ sepB q) (fun j => xs (i + j)) d W wc HT.out (hWr.trans (HBe.out ▸ hB2)) (HBe.out.symm ▸ hb2) (heN.kept hk2 heb) heb (HR.out.sub i s HIN.out) p0 p1
          (by have := HLl.out; have h3 := sepB_length q; rw [List.length_append]; omega)
        have hbe := HBe.out
        rw [hbe] at hwc
        clear hbe hb2 heN
        go_wp2_with fail
        refine hwc.mono ?_
        rintro en w2 ⟨rfl, hb3, hB3, hk3⟩
        clear hwc
        go_wp2
        go_roundg m
        case measure => omega
        case rel =>
          refine ⟨q + 1, by omega, by rw [HQ1.out]; rfl, ?_, (hB.trans hB2).trans hB3, (hk.trans hk2).trans hk3⟩
          rw [HC.out, ← List.append_assoc, ← List.append_assoc, HLL.out]
          exact hb3
end Go.Proofs.YtodihpaabkplhaaDoor
