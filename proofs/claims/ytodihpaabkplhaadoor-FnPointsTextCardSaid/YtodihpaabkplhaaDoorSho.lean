/- shortFloat: the shortest digits that are read back as the number. -/
import Derived.Test.YtodihpaabkplhaaDoorFix
import Derived.Deep.DeepCutAuto
import Derived.Lib.ItoaWalk
namespace Go.Proofs.YtodihpaabkplhaaDoor
open Go.RowKit

/-- The place, the two ends of the interval, and whether the mantissa is odd. -/
def shPar (m e : Int) : Int × Int × Int × Int :=
  if (m == 9223372036854775808) = true ∧ -1085 < e then
    (-(((e + 11) * 631305 - 261663) / 2097152), IntKind.u64.wrap (m - 512), IntKind.u64.wrap (m + 1024), bits BinOp.and IntKind.i64 (wrap64 (m / 2048)) 1)
  else if -1085 ≤ e then
    (-((e + 11) * 78913 / 262144), IntKind.u64.wrap (m - 1024), IntKind.u64.wrap (m + 1024), bits BinOp.and IntKind.i64 (wrap64 (m / 2048)) 1)
  else
    (-((e + (11 + (-1085 - e))) * 78913 / 262144), IntKind.u64.wrap (m - IntKind.u64.wrap (2 ^ ((11 + (-1085 - e)).toNat - 1))), IntKind.u64.wrap (m + IntKind.u64.wrap (2 ^ ((11 + (-1085 - e)).toNat - 1))), bits BinOp.and IntKind.i64 (wrap64 (m / 2 ^ (11 + (-1085 - e)).toNat)) 1)
def shLo (m e : Int) : Int := uCeil (uNudge (scaled (shPar m e).2.1 e (shPar m e).1) (shPar m e).2.2.2)
def shHi (m e : Int) : Int := uFloor (uNudge (scaled (shPar m e).2.2.1 e (shPar m e).1) (-(shPar m e).2.2.2))
def shortF (m e : Int) : Int × Int :=
  if shLo m e ≤ IntKind.u64.wrap (shHi m e / 10 * 10) then (shHi m e / 10, -((shPar m e).1 - 1))
  else if shLo m e < shHi m e then (uRound (scaled m e (shPar m e).1), -(shPar m e).1)
  else (shLo m e, -(shPar m e).1)

theorem and1_le (x : Int) : 0 ≤ bits BinOp.and IntKind.i64 x 1 ∧ bits BinOp.and IntKind.i64 x 1 ≤ 1 := by
  have e : bits BinOp.and IntKind.i64 x 1 = IntKind.i64.wrap ((BitVec.ofInt 64 x &&& 1#64).toNat : Int) := rfl
  have h : (BitVec.ofInt 64 x &&& 1#64).toNat ≤ 1 := by
    rw [BitVec.toNat_and]
    exact Nat.and_le_right
  rw [e, IntKind.wrap_i64]
  omega

set_option maxHeartbeats 4000000 in
theorem short_any (cb co : Nat) (m e : Int) (w : World) (T : Tabs cb co w) (hm : U64 m) (e0 : -1137 ≤ e) (e1 : e ≤ 960) :
    Calls Tryd.prog 79 #[.int .u64 m, .int .i64 e] w fun en w' => en = .returned (.tuple #[.int .u64 (shortF m e).1, .int .i64 (shortF m e).2]) ∧ Below w.heap.size w w' := by
  obtain ⟨W, hW⟩ : ∃ W, w.alloc (.cells #[.int .u64 0, .int .u64 0, .int .i64 0] 123) = W := ⟨_, rfl⟩
  have hB : Below w.heap.size w W := hW ▸ (Below.refl _ _).alloc (Nat.le_refl _) _
  have hblk : W.heap[w.heap.size]? = some (.cells #[.int .u64 0, .int .u64 0, .int .i64 0] 123 (0, 0)) := hW ▸ heap_new _ _
  have TW := T.below hB
  by_cases hA : (m == 9223372036854775808) = true
  all_goals by_cases h1 : -1085 < e
  all_goals by_cases h2 : -1085 ≤ e
  all_goals try (exfalso; omega)
  all_goals try (rw [Bool.not_eq_true] at hA)
  all_goals
    go_enter Tryd.func79, Tryd.ntmps79
    go_upto_region 27 with (first
    | (go_at_call 74; refine (log10Pow2_any _ _ (by omega) (by omega)).mono ?_; rintro en w' ⟨rfl, rfl⟩)
    | (go_at_call 85; refine (skewed_any _ _ (by omega) (by omega)).mono ?_; rintro en w' ⟨rfl, rfl⟩))
  all_goals (go_name_slot 5 P hP; go_name_slot 8 mn hmn; go_name_slot 9 mx hmx; go_name_slot 10 od hod)
  all_goals (
    have HPAR : Hid (shPar m e = (P, mn, mx, od)) := by
      show _ = _
      unfold shPar
      first
        | rw [if_pos ⟨hA, by omega⟩, hP, hmn, hmx, hod]
        | rw [if_neg (fun h => absurd h.2 (by omega)), if_pos (by omega), hP, hmn, hmx, hod]
        | rw [if_neg (fun h => absurd (hA.symm.trans h.1) (by decide)), if_pos (by omega), hP, hmn, hmx, hod]
        | rw [if_neg (fun h => absurd h.2 (by omega)), if_neg (by omega), hP, hmn, hmx, hod])
  all_goals (
    have P0 : -307 ≤ P := by omega
    have P1 : P ≤ 341 := by omega
    have od0 : 0 ≤ od := hod ▸ (and1_le _).1
    have od1 : od ≤ 1 := hod ▸ (and1_le _).2
    have umn : U64 mn := hmn ▸ u64_wrap _
    have umx : U64 mx := hmx ▸ u64_wrap _
    clear hP hmn hmx hod hA
    obtain ⟨i, hi⟩ : ∃ i : Nat, P + 348 = i := ⟨(P + 348).toNat, by omega⟩
    have i1 : i < 696 := by omega
    have th := TW.hi i i1
    have tl := TW.lo i i1
    have HI := Lib.hid hi
    clear hi
    go_wp2_with (go_at_call 87; refine (log2Pow10_any _ _ (by omega) (by omega)).mono ?_; rintro en w' ⟨rfl, rfl⟩)
    refine (prescale_any _ i e P _ (pmHi i) (pmLo i) _ HI.out i1 (by omega) (by omega) (by omega) (by omega) hblk th tl).mono ?_
    rintro en w1 ⟨rfl, hb1, hB1⟩
    have hB1' := hB.trans hB1
    clear hB1 hB hblk th tl hW TW T
    have hS : ∀ x, uScale x (pmHi i) (pmLo i) (-(e + P * 108853 / 32768 + 3)) = scaled x e P := fun x => by
      unfold scaled sclS
      rw [HI.out, Int.toNat_natCast]
    have HS := Lib.hid hS
    clear hS
    have cc : ∀ n, (w1.drewN n).heap[w.heap.size]? = some (.cells #[.int .u64 (pmHi i), .int .u64 (pmLo i), .int .i64 (-(e + P * 108853 / 32768 + 3))] 123 (0, 0)) := fun n => hb1
    have CC := Lib.hid cc
    clear cc
    have c0 : w1.cell? ⟨w.heap.size, 0, none⟩ = some (.int .u64 (pmHi i)) := by rw [Lib.cell_of_heap hb1]; rfl
    have c1 : w1.cell? ⟨w.heap.size, 1, none⟩ = some (.int .u64 (pmLo i)) := by rw [Lib.cell_of_heap hb1]; rfl
    have c2 : w1.cell? ⟨w.heap.size, 2, none⟩ = some (.int .i64 (-(e + P * 108853 / 32768 + 3))) := by rw [Lib.cell_of_heap hb1]; rfl
    clear hb1
    go_wp2_with fail
    refine (uscale_any _ _ _ _ umn (u64_pmHi i i1) (u64_pmLo i i1) _ _ c0 c1 c2).mono ?_
    rintro en w2 ⟨rfl, nq, hw2⟩
    rw [HS.out]
    have cc2 := CC.out nq
    rw [← hw2] at cc2
    have hB2 : Below w.heap.size w w2 := hw2 ▸ Below.drewN hB1' nq
    clear c0 c1 c2
    have HW2 := Lib.hid hw2
    clear hw2
    have c0 : w2.cell? ⟨w.heap.size, 0, none⟩ = some (.int .u64 (pmHi i)) := by rw [Lib.cell_of_heap cc2]; rfl
    have c1 : w2.cell? ⟨w.heap.size, 1, none⟩ = some (.int .u64 (pmLo i)) := by rw [Lib.cell_of_heap cc2]; rfl
    have c2 : w2.cell? ⟨w.heap.size, 2, none⟩ = some (.int .i64 (-(e + P * 108853 / 32768 + 3))) := by rw [Lib.cell_of_heap cc2]; rfl
    clear cc2 hB1'
    have hlo : shLo m e = uCeil (uNudge (scaled mn e P) od) := by
      unfold shLo
      rw [HPAR.out]
    obtain ⟨lo, hlo'⟩ : ∃ x, uCeil (uNudge (scaled mn e P) od) = x := ⟨_, rfl⟩
    have HLO := Lib.hid (hlo.trans hlo')
    have ulo : U64 lo := hlo' ▸ u64_uCeil _
    clear hlo
    go_wp2_with (first
      | (go_at_call 89; refine (nudge_any _ _ _).mono ?_; rintro en w' ⟨rfl, rfl⟩)
      | (go_at_call 90; refine (ceil_any _ _).mono ?_; rintro en w' ⟨rfl, rfl⟩))
    clear hlo'
    refine (uscale_any _ _ _ _ umx (u64_pmHi i i1) (u64_pmLo i i1) _ _ c0 c1 c2).mono ?_
    rintro en w3 ⟨rfl, nq3, hw3⟩
    rw [HS.out]
    have cc3 := CC.out (nq + nq3)
    have hB3 : Below w.heap.size w w3 := hw3 ▸ Below.drewN hB2 nq3
    have e3 : w3 = w1.drewN (nq + nq3) := by rw [hw3, HW2.out]; simp [World.drewN, Nat.add_assoc]
    rw [← e3] at cc3
    clear c0 c1 c2 hw3 e3 HW2 hB2
    have c0 : w3.cell? ⟨w.heap.size, 0, none⟩ = some (.int .u64 (pmHi i)) := by rw [Lib.cell_of_heap cc3]; rfl
    have c1 : w3.cell? ⟨w.heap.size, 1, none⟩ = some (.int .u64 (pmLo i)) := by rw [Lib.cell_of_heap cc3]; rfl
    have c2 : w3.cell? ⟨w.heap.size, 2, none⟩ = some (.int .i64 (-(e + P * 108853 / 32768 + 3))) := by rw [Lib.cell_of_heap cc3]; rfl
    clear cc3
    have hhi : shHi m e = uFloor (uNudge (scaled mx e P) (-od)) := by
      unfold shHi
      rw [HPAR.out]
    obtain ⟨hi, hhi'⟩ : ∃ x, uFloor (uNudge (scaled mx e P) (-od)) = x := ⟨_, rfl⟩
    have HHI := Lib.hid (hhi.trans hhi')
    have uhi : U64 hi := hhi' ▸ u64_uFloor _
    have htd := tdiv_u64 uhi
    clear hhi
    go_wp2_with (first
      | (go_at_call 89; refine (nudge_any _ _ _).mono ?_; rintro en w' ⟨rfl, rfl⟩)
      | (go_at_call 91; refine (floor_any _ _).mono ?_; rintro en w' ⟨rfl, rfl⟩)))
  all_goals first
    | (have hle : lo ≤ IntKind.u64.wrap (hi / 10 * 10) := by assumption
       go_ret2
       refine ⟨ret2 ?_ ?_, hB3⟩
       · unfold shortF; rw [HLO.out, HHI.out, if_pos hle]
       · unfold shortF; rw [HLO.out, HHI.out, if_pos hle, HPAR.out])
    | (have hnl : IntKind.u64.wrap (hi / 10 * 10) < lo := by assumption
       have hle : hi ≤ lo := by assumption
       go_ret2
       refine ⟨ret2 ?_ ?_, hB3⟩
       · unfold shortF; rw [HLO.out, HHI.out, if_neg (by omega), if_neg (by omega)]
       · unfold shortF; rw [HLO.out, HHI.out, if_neg (by omega), if_neg (by omega), HPAR.out])
    | (have hnl : IntKind.u64.wrap (hi / 10 * 10) < lo := by assumption
       have hlt : lo < hi := by assumption
       refine (uscale_any _ _ _ _ hm (u64_pmHi i i1) (u64_pmLo i i1) _ _ c0 c1 c2).mono ?_
       rintro en w4 ⟨rfl, nq4, hw4⟩
       rw [HS.out]
       have hB4 : Below w.heap.size w w4 := hw4 ▸ Below.drewN hB3 nq4
       clear hw4 hB3 c0 c1 c2
       go_wp2_with (go_at_call 92; refine (round_any _ _).mono ?_; rintro en w' ⟨rfl, rfl⟩)
       go_ret2
       refine ⟨ret2 ?_ ?_, hB4⟩
       · unfold shortF; rw [HLO.out, HHI.out, if_neg (by omega), if_pos hlt, HPAR.out]
       · unfold shortF; rw [HLO.out, HHI.out, if_neg (by omega), if_pos hlt, HPAR.out])

theorem shortF_fst (m e : Int) : U64 (shortF m e).1 := by
  unfold shortF
  split
  · exact u64_div (u64_uFloor _) 10
  · split
    · exact u64_uRound _
    · exact u64_uCeil _
theorem shortF_snd (m e : Int) (e0 : -1137 ≤ e) (e1 : e ≤ 960) : -400 ≤ (shortF m e).2 ∧ (shortF m e).2 ≤ 400 := by
  have h : -307 ≤ (shPar m e).1 ∧ (shPar m e).1 ≤ 341 := by
    unfold shPar
    split
    · simp only; omega
    · split
      · simp only; omega
      · simp only; omega
  unfold shortF
  split
  · simp only; omega
  · split
    · simp only; omega
    · simp only; omega
end Go.Proofs.YtodihpaabkplhaaDoor
