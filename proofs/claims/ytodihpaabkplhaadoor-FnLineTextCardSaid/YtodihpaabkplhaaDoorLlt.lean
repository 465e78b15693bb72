/- The law FnLineText. -/
import Derived.Test.YtodihpaabkplhaaDoorGeg
import Derived.Test.YtodihpaabkplhaaDoorRws
import Derived.Test.YtodihpaabkplhaaDoorDfl
import Derived.Test.YtodihpaabkplhaaDoorLpt
namespace Go.Proofs.YtodihpaabkplhaaDoor
open Go.RowKit

theorem own_some {w : World} {B k : Nat} {te : TypeId} {v : Value} {xs : List Value} (h : OwnV w B te 1 v k xs) (hk : 0 < k) : ∃ g c, v = .slice (some ⟨g, 0, none⟩) k c ∧ ∀ i u, i < k → xs[i]? = some u → w.cell? ⟨g, i, none⟩ = some u := by
  have h1 : w.ownsRow B te 1 v k xs := h
  rcases h1.2 with ⟨_, h0⟩ | ⟨g, cap, _, hv, _⟩
  · omega
  · subst hv
    refine ⟨g, cap, rfl, fun i u hi hu => ?_⟩
    rw [h1.cellAt i (by omega)]
    exact hu
theorem str41 (f : Nat → List UInt8) (k : Nat) : str ([40] ++ joinB f k) ++ (⟨#[41]⟩ : ByteArray) = str (brackB f k) := str_append _ [41]
theorem line_len (xs : Nat → Nat) (d : Int) (s q k n : Nat) (p0 : -1 ≤ d) (p1 : d ≤ 20) (hs : 1 ≤ s) (hn : n = k * s) (hq : q ≤ k) (hn2 : n ≤ 2000) : ([40] ++ joinB (placeB xs d s) q).length ≤ 40020000 := by
  have h1 := join_place_length xs d s p0 p1 q
  have h3 : q * (s * 20004 + 2) = q * s * 20004 + q * 2 := by rw [Nat.mul_add, ← Nat.mul_assoc]
  have h4 : q * s ≤ k * s := Nat.mul_le_mul_right s hq
  have h5 : q ≤ q * s := Nat.le_mul_of_pos_right q hs
  rw [List.length_append, List.length_singleton]
  omega

set_option maxRecDepth 100000 in
set_option maxHeartbeats 3200000 in
theorem fnLineText_any (cb co n cap : Nat) (ao : Option Addr) (xs : Nat → Nat) (s d : Int) (w : World) (T : Tabs cb co w) (hr : FRowO w ao n xs) (hcap : n ≤ cap) (hcm : cap ≤ maxLen)
    (s0 : -9223372036854775808 ≤ s) (s1 : s ≤ 9223372036854775807) (d0 : -9223372036854775808 ≤ d) (d1 : d ≤ 9223372036854775807) :
    Calls Tryd.prog 4 #[.slice ao n cap, .int .i64 s, .int .i64 d] w fun e w' => e = .returned (.bool true) ∧ Below w.heap.size w w' := by
  have HT := Lib.hid T
  have HR := Lib.hid hr
  have HM := Lib.hid hcm
  have HC := Lib.hid hcap
  clear T hr hcm hcap
  by_cases hb : 2147483647 < n
  · have hb' : (2147483647 : Int) < (n : Int) := by omega
    clear hb
    go_enter Tryd.func4, Tryd.ntmps4
    go_wp2_with fail
    go_ret
    exact ⟨rfl, Below.refl _ _⟩
  · have hb' : ¬ (2147483647 : Int) < (n : Int) := by omega
    have hfr := fRow_any ao n cap s w (by omega)
    have hxd := fun w' => xDigits_any d w' d0 d1
    obtain ⟨db, hdb⟩ : ∃ db, (decide (-1 ≤ d) && decide (d ≤ 20)) = db := ⟨_, rfl⟩
    rw [hdb] at hxd
    have HDB := Lib.hid hdb
    clear hb hdb
    go_enter Tryd.func4, Tryd.ntmps4
    go_wp2_with fail
    refine hfr.mono ?_
    rintro en1 w1 ⟨k', l', a1, n1, e1, a2, n2, e2, a3, n3, e3, b, rfl, hok, hB1⟩
    clear hfr
    have hB2 : Below w.heap.size w (w1.alloc (.cells #[.int .i64 k', .int .i64 l', .int .i64 0, .slice a1 n1 e1, .slice a2 n2 e2, .slice a3 n3 e3, .slice none 0 0] 33)) := hB1.alloc hB1.size _
    cases b with
    | false =>
      clear hok hxd
      go_wp2_with fail
      go_ret
      exact ⟨rfl, hB2⟩
    | true =>
      obtain ⟨h2, h9, _, hsz, hg⟩ := hok rfl
      clear hok
      cases db with
      | false =>
        clear hg
        go_wp2_with fail
        refine (hxd _).mono ?_
        rintro en2 w2 ⟨rfl, rfl⟩
        clear hxd
        go_wp2_with fail
        go_ret
        exact ⟨rfl, hB2⟩
      | true =>
        by_cases hn0 : n = 0
        · have hn0' : ((n : Int) == 0) = true := by rw [hn0]; rfl
          clear hg hsz
          go_wp2_with fail
          refine (hxd _).mono ?_
          rintro en2 w2 ⟨rfl, rfl⟩
          clear hxd
          go_wp2_with fail
          go_ret
          exact ⟨rfl, hB2⟩
        · have hn0' : ((n : Int) == 0) = false := by rw [beq_eq_false_iff_ne]; omega
          have hwh := hg.whole
          have HWH := Lib.hid hwh
          have HSZ := Lib.hid hsz
          clear hg hwh hsz
          obtain ⟨S, rfl⟩ : ∃ S : Nat, s = S := ⟨s.toNat, by omega⟩
          obtain ⟨W2, hW2⟩ : ∃ W2, (w1.alloc (.cells #[.int .i64 k', .int .i64 l', .int .i64 0, .slice a1 n1 e1, .slice a2 n2 e2, .slice a3 n3 e3, .slice none 0 0] 33)) = W2 := ⟨_, rfl⟩
          rw [hW2] at hB2
          have HW2 := Lib.hid hW2
          clear hW2 hB1
          go_wp2_with fail
          refine (hxd _).mono ?_
          rintro en2 w2 ⟨rfl, rfl⟩
          clear hxd
          rw [HW2.out]
          clear HW2
          obtain ⟨blk, off, rfl, hx⟩ := HR.out (by omega)
          have hS2 : 2 ≤ S := by omega
          have hS9 : S ≤ 9 := by omega
          obtain ⟨k, hk⟩ : ∃ k, n = k * S := ⟨n / S, by
            have h := HWH.out
            rw [Int.toNat_natCast] at h
            have := Nat.div_add_mod n S
            rw [h, Nat.add_zero, Nat.mul_comm] at this
            exact this.symm⟩
          have hn2 : n ≤ 2000 := by have := HSZ.out; omega
          have hk0 : 0 < k := by
            rcases Nat.eq_zero_or_pos k with h | h
            · rw [h, Nat.zero_mul] at hk; omega
            · exact h
          have hkn : k ≤ n := by rw [hk]; exact Nat.le_mul_of_pos_right k (by omega)
          have p0 : -1 ≤ d := by have h := HDB.out; rw [Bool.and_eq_true, decide_eq_true_eq] at h; exact h.1
          have p1 : d ≤ 20 := by have h := HDB.out; rw [Bool.and_eq_true, decide_eq_true_eq, decide_eq_true_eq] at h; exact h.2
          have hrows := rows_any blk off n k S cap W2 hk (by omega) HC.out (by omega) (by omega)
          have HK := Lib.hid hk
          have HX := Lib.hid hx
          clear hk hx HR HWH HSZ HDB
          go_wp2_with fail
          refine hrows.mono ?_
          rintro en3 w3 ⟨v, rfl, hown, hB3⟩
          clear hrows
          obtain ⟨g, c, rfl, hce⟩ := own_some hown hk0
          have hce' : ∀ i, i < k → w3.cell? ⟨g, i, none⟩ = some (.slice (some ⟨blk, off + i * S, none⟩) S (cap - i * S)) := fun i hi => hce i _ hi (rowsL_get blk off S cap k i hi)
          have HCE := Lib.hid hce'
          have hB4 : Below w.heap.size w w3 := hB2.trans (hB3.mono hB2.size)
          clear hce hce' hown hB3 hB2
          go_wp2_with fail
          go_loopg [41, 9] k (fun m v41 v9 wr => ∃ q : Nat, q + m = k ∧ v41 = .int .i64 q ∧ v9 = .string (str ([40] ++ joinB (placeB xs d S) q)) ∧ Below w3.heap.size w3 wr)
          case atStart => exact ⟨0, by omega, rfl, rfl, Below.refl _ _⟩
          case round =>
            obtain ⟨q, hq, rfl, rfl, hB⟩ := hrel
            have hBw : Below w.heap.size w wr := hB4.trans (hB.mono hB4.size)
            have hll := line_len xs d S q k n p0 p1 (by omega) HK.out (by omega) hn2
            cases gk with
            | zero =>
              have hqk : q = k := by omega
              subst hqk
              have hlt := LineText_any cb co blk off n q S cap xs d wr (HT.out.below hBw) (FRow.below HX.out hBw) HK.out (by omega) HC.out HM.out p0 p1 (by omega)
              have hst := str41 (placeB xs d S) q
              have hz : ¬ 9223372036854775807 < (str ([40] ++ joinB (placeB xs d S) q)).size + 1 := by rw [str_size]; omega
              have hlt2 : Calls _ _ _ _ fun e w' => e = .returned (.tuple #[.string (str (brackB (placeB xs d S) q)), .bool true]) ∧ _ := hlt
              obtain ⟨L, hL⟩ : ∃ L, str ([40] ++ joinB (placeB xs d S) q) = L := ⟨_, rfl⟩
              obtain ⟨R, hR⟩ : ∃ R, str (brackB (placeB xs d S) q) = R := ⟨_, rfl⟩
              rw [hL, hR] at hst
              rw [hL] at hz
              rw [hR] at hlt2
              rw [hL]
              clear hlt hL hR hll
              go_wp2_with fail
              refine hlt2.mono ?_
              rintro en4 w4 ⟨rfl, hB5⟩
              clear hlt2
              go_wp2_with fail
              go_ret
              exact ⟨retb (by simp), hBw.trans (hB5.mono hBw.size)⟩
            | succ m =>
              have cp := cell_kept hB (HCE.out q (by omega))
              have hqi : (q : Int) < (k : Int) := by omega
              have hq9 : (q : Int) ≤ 2000 := by omega
              obtain ⟨o, ho⟩ : ∃ o, q * S = o := ⟨_, rfl⟩
              rw [ho] at cp
              have hoS : o + S ≤ n := by
                have h1 : (q + 1) * S ≤ k * S := Nat.mul_le_mul_right S (by omega)
                have h2 := HK.out
                rw [Nat.succ_mul, ho] at h1
                omega
              obtain ⟨PRE, hPRE⟩ : ∃ PRE, [40] ++ joinB (placeB xs d S) q ++ sepB q = PRE := ⟨_, rfl⟩
              have hj1 : [40] ++ joinB (placeB xs d S) (q + 1) = PRE ++ coordB (fun j => xs (o + j)) d S := by
                rw [joinB, placeB, ho, ← hPRE]
                simp [List.append_assoc]
              have HJ1 := Lib.hid hj1
              have HPRE := Lib.hid hPRE
              have HLL := Lib.hid hll
              clear hj1 ho hPRE hll
              go_upto_if 47 with fail
              go_cut [9] (fun v wx => v = .string (str PRE) ∧ wx = wr)
              case first =>
                clear cp
                by_cases h0 : q = 0
                · subst h0
                  have z0 : ((0 : Nat) : Int) = 0 := rfl
                  rw [z0]
                  clear z0
                  have hp : [40] ++ joinB (placeB xs d S) 0 = PRE := by rw [← HPRE.out]; rfl
                  rw [hp]
                  clear hp
                  go_wp2_with fail
                  go_meet
                  exact ⟨rfl, rfl⟩
                · have h1 : (0 : Int) < (q : Int) := by omega
                  have hst : str ([40] ++ joinB (placeB xs d S) q) ++ (⟨#[44, 32]⟩ : ByteArray) = str PRE := by
                    have := str_append ([40] ++ joinB (placeB xs d S) q) [44, 32]
                    rw [← HPRE.out, sepB_pos h0]
                    exact this
                  have hz : ¬ 9223372036854775807 < (str ([40] ++ joinB (placeB xs d S) q)).size + 2 := by have := HLL.out; rw [str_size]; omega
                  obtain ⟨L, hL⟩ : ∃ L, str ([40] ++ joinB (placeB xs d S) q) = L := ⟨_, rfl⟩
                  obtain ⟨R, hR⟩ : ∃ R, str PRE = R := ⟨_, rfl⟩
                  rw [hL, hR] at hst
                  rw [hL] at hz
                  rw [hL]
                  have HRR := Lib.hid hR
                  clear hL hR h0
                  go_wp2_with fail
                  go_meet
                  exact ⟨by rw [HRR.out], rfl⟩
              case rest =>
                obtain ⟨rfl, rfl⟩ := hcut
                rename_i K hK
                refine hK _ _ ?_
                clear hK
                go_wp2_with fail
                go_loopg [52, 9] S (fun m' v52 v9 wy => ∃ j : Nat, j + m' = S ∧ v52 = .int .i64 j ∧ v9 = .string (str (PRE ++ coordB (fun j => xs (o + j)) d j)) ∧ Below w3.heap.size w3 wy)
                case atStart => exact ⟨0, by omega, rfl, by rw [coordB, List.append_nil], hB⟩
                case round =>
                  clear hB hBw cp
                  obtain ⟨j, hj, rfl, rfl, hB⟩ := hrel
                  have hBw : Below w.heap.size w wr := hB4.trans (hB.mono hB4.size)
                  cases gk with
                  | zero =>
                    have hjS : j = S := by omega
                    subst hjS
                    rw [← HJ1.out]
                    obtain ⟨L, hL⟩ : ∃ L, str ([40] ++ joinB (placeB xs d j) (q + 1)) = L := ⟨_, rfl⟩
                    rw [hL]
                    have HL := Lib.hid hL
                    clear hL
                    go_wp2_with fail
                    go_roundg m
                    case measure => omega
                    case rel => exact ⟨q + 1, by omega, rfl, by rw [HL.out], hB⟩
                  | succ m' =>
                    have cx : wr.cell? ⟨blk, off + o + j, none⟩ = some (.float .f64 (xs (o + j))) := by
                      have := FRow.cell HX.out hBw (show o + j < n by omega)
                      rw [← Nat.add_assoc] at this
                      exact this
                    have hx64 := (HX.out (o + j) (by omega)).2
                    obtain ⟨x, hx⟩ : ∃ x, xs (o + j) = x := ⟨_, rfl⟩
                    rw [hx] at cx hx64
                    have hc1 : coordB (fun j => xs (o + j)) d (j + 1) = coordB (fun j => xs (o + j)) d j ++ (if j = 0 then [] else [32]) ++ numB x d := by rw [coordB, hx]
                    have HC := Lib.hid hc1
                    have hwn := writeNumber_any cb co x d wr (HT.out.below hBw) hx64 p0 p1
                    rw [← numB_str] at hwn
                    have hi9 : (j : Int) < 9 := by omega
                    have hin : (j : Int) < S := by omega
                    have hl1 := coordB_length (fun j => xs (o + j)) d p0 p1 j
                    have hl2 := numB_length x d p0 p1
                    have hl3 : j * 20004 ≤ 180036 := by omega
                    have hl4 : PRE.length ≤ 40020002 := by
                      have h := HLL.out
                      have h' := sepB_length q
                      rw [← HPRE.out, List.length_append]
                      omega
                    clear hc1 hx
                    by_cases h0 : j = 0
                    · subst h0
                      have hst : str (PRE ++ coordB (fun j => xs (o + j)) d 0) ++ str (numB x d) = str (PRE ++ coordB (fun j => xs (o + j)) d (0 + 1)) := by
                        rw [str_append, HC.out]
                        simp [coordB]
                      have hz : ¬ 9223372036854775807 < (str (PRE ++ coordB (fun j => xs (o + j)) d 0)).size + (str (numB x d)).size := by rw [str_size, str_size, List.length_append]; omega
                      obtain ⟨A, hA⟩ : ∃ A, str (PRE ++ coordB (fun j => xs (o + j)) d 0) = A := ⟨_, rfl⟩
                      obtain ⟨N, hN⟩ : ∃ N, str (numB x d) = N := ⟨_, rfl⟩
                      obtain ⟨R, hR⟩ : ∃ R, str (PRE ++ coordB (fun j => xs (o + j)) d (0 + 1)) = R := ⟨_, rfl⟩
                      rw [hA, hN, hR] at hst
                      rw [hA, hN] at hz
                      rw [hN] at hwn
                      rw [hA]
                      have HRR := Lib.hid hR
                      rw [Nat.add_zero] at cx
                      clear hl1 hl2 hl3 hl4 hA hN hR
                      have z0 : ((0 : Nat) : Int) = 0 := rfl
                      rw [z0]
                      clear z0
                      go_wp2_with fail
                      refine hwn.mono ?_
                      rintro en2 w2 ⟨rfl, hB2⟩
                      clear hwn
                      go_wp2_with fail
                      go_roundg m'
                      case measure => omega
                      case rel => exact ⟨1, by omega, rfl, by rw [HRR.out], hB.trans (hB2.mono hB.size)⟩
                    · have h1 : (0 : Int) < (j : Int) := by omega
                      have hst : str (PRE ++ coordB (fun j => xs (o + j)) d j) ++ str [32] ++ str (numB x d) = str (PRE ++ coordB (fun j => xs (o + j)) d (j + 1)) := by
                        rw [str_append, str_append, HC.out, if_neg h0]
                        simp [List.append_assoc]
                      have hz1 : ¬ 9223372036854775807 < (str (PRE ++ coordB (fun j => xs (o + j)) d j)).size + 1 := by rw [str_size, List.length_append]; omega
                      have hz2 : ¬ 9223372036854775807 < (str (PRE ++ coordB (fun j => xs (o + j)) d j) ++ str [32]).size + (str (numB x d)).size := by rw [str_append, str_size, str_size, List.length_append, List.length_append, List.length_singleton]; omega
                      change str (PRE ++ coordB (fun j => xs (o + j)) d j) ++ (⟨#[32]⟩ : ByteArray) ++ _ = _ at hst
                      obtain ⟨A, hA⟩ : ∃ A, str (PRE ++ coordB (fun j => xs (o + j)) d j) = A := ⟨_, rfl⟩
                      obtain ⟨N, hN⟩ : ∃ N, str (numB x d) = N := ⟨_, rfl⟩
                      obtain ⟨R, hR⟩ : ∃ R, str (PRE ++ coordB (fun j => xs (o + j)) d (j + 1)) = R := ⟨_, rfl⟩
                      obtain ⟨A2, hA2⟩ : ∃ A2, A ++ (⟨#[32]⟩ : ByteArray) = A2 := ⟨_, rfl⟩
                      change ¬ 9223372036854775807 < (str (PRE ++ coordB (fun j => xs (o + j)) d j) ++ (⟨#[32]⟩ : ByteArray)).size + _ at hz2
                      rw [hA, hN, hR, hA2] at hst
                      rw [hA] at hz1
                      rw [hA, hN, hA2] at hz2
                      rw [hN] at hwn
                      rw [hA]
                      have HRR := Lib.hid hR
                      clear hl1 hl2 hl3 hl4 hA hN hR h0
                      go_wp2_with fail
                      refine hwn.mono ?_
                      rintro en2 w2 ⟨rfl, hB2⟩
                      clear hwn
                      go_wp2_with fail
                      go_roundg m'
                      case measure => omega
                      case rel => exact ⟨j + 1, by omega, rfl, by rw [HRR.out], hB.trans (hB2.mono hB.size)⟩
end Go.Proofs.YtodihpaabkplhaaDoor
