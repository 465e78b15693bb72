/- atof64: it ends, and what it gives hangs on the text alone. strconv.ParseFloat of a text of digits, points, signs and e: what it gives hangs on the text alone. -/
import Derived.Test.YtodihpaabkplhaaGreatDoorPdu
import Derived.Test.YtodihpaabkplhaaGreatDoorPfp
import Derived.Test.YtodihpaabkplhaaGreatDoorPex
import Derived.Test.YtodihpaabkplhaaGreatDoorPpk

namespace Go.Proofs.YtodihpaabkplhaaGreatDoor
open Go.RowKit

theorem zero_cells : Tryz.zeroCells121 = ((List.replicate 800 (Value.int .u8 0)) ++ [Value.int .i64 0, Value.int .i64 0, Value.bool false, Value.bool false]).toArray := by kernel_rfl
theorem zero_size : Tryz.zeroCells121.size = 804 := by rw [zero_cells, List.size_toArray, List.length_append, List.length_replicate]; rfl
theorem zero_at (i : Nat) (hi : i < Tryz.zeroCells121.size) : Tryz.zeroCells121[i]? = some (decC zeroDec i) := by
  rw [zero_size] at hi
  rw [zero_cells, List.getElem?_toArray]
  unfold decC
  by_cases h : i < 800
  · rw [if_pos h, List.getElem?_append_left (by rw [List.length_replicate]; exact h), List.getElem?_replicate, if_pos h]
    rfl
  · rw [if_neg h, List.getElem?_append_right (by rw [List.length_replicate]; omega), List.length_replicate]
    rcases (show i = 800 ∨ i = 801 ∨ i = 802 ∨ i = 803 by omega) with rfl | rfl | rfl | rfl <;> rfl

/-- What is read: the bits, how many bytes, the error's number. -/
def AtofIs (S : ByteArray) (x n r : Nat) : Prop := ∀ (sp : Spots) (w : World), Tab2 sp w →
    Calls Tryz.prog 38 #[.string S] w fun e w' => e = .returned (.tuple #[.float .f64 x, .int .i64 n, errV r]) ∧ Below w.heap.size w w'

set_option maxRecDepth 100000 in
set_option maxHeartbeats 4000000 in
theorem atof_trunc (S : ByteArray) (hS : Numeric S) (m i : Nat) (exp sg : Int) (neg : Bool) (hm1 : 1 ≤ m) (hm : m < 10000000000000000000) (hi : i ≤ S.size) (h310 : exp ≤ 310) (h345 : -345 ≤ exp) (usg : U64 sg)
    (hsg : IntKind.u64.wrap (b2i neg * 9223372036854775808) = sg)
    (hR : ∀ w : World, Calls Tryz.prog 52 #[.string S] w fun e w' => e = .returned (.tuple #[.int .u64 (m : Int), .int .i64 exp, .bool neg, .bool true, .bool false, .int .i64 (i : Int), .bool true]) ∧ w' = w)
    (hset : ∃ D, SetOk D ∧ ∀ (b : Nat) (w : World), DecAt w b zeroDec → Calls Tryz.prog 58 #[.pointer (some ⟨b, 0, none⟩), .string (S.extract 0 i)] w fun e w' => e = .returned (.bool true) ∧ DecAt w' b D ∧ Below b w w') :
    ∃ x n r : Nat, x < 18446744073709551616 ∧ n ≤ 2000 ∧ r ≤ 2 ∧ AtofIs S x n r := by
  have hsz := hS.1
  obtain ⟨x2, r2, hx2, hr2, hp2⟩ := parse64_any m exp sg hm1 (by omega) h345 h310 usg
  obtain ⟨x3, r3, hx3, hr3, hp3⟩ := parse64_any (m + 1) exp sg (by omega) (by omega) h345 h310 usg
  have HP2 := Lib.hid hp2
  have hp3' : ∀ (sp : Spots) (w : World), Tab2 sp w → Calls Tryz.prog 63 #[.int .u64 ((m : Int) + 1), .int .i64 exp, .int .u64 sg] w fun en w' => en = .returned (.tuple #[.float .f64 x3, errV r3]) ∧ Below w.heap.size w w' := by
    intro sp w T
    have h := hp3 sp w T
    rw [show ((m + 1 : Nat) : Int) = (m : Int) + 1 by omega] at h
    exact h
  have HP3 := Lib.hid hp3'
  have HR := Lib.hid hR
  have HNUM := Lib.hid hS
  have hmb : ((m : Int) == 0) = false := by rw [beq_eq_false_iff_ne]; omega
  have hmw : IntKind.u64.wrap ((m : Int) + 1) = ((m + 1 : Nat) : Int) := by rw [IntKind.wrap_u64]; omega
  have hm0 : (0 : Int) ≤ (m : Int) := by omega
  have hsg0 := usg.1
  obtain ⟨g, hg⟩ : ∃ g, (FloatKind.f64.format.order x2 x3 == some Ordering.eq) = g := ⟨_, rfl⟩
  cases g with
  | true =>
    refine ⟨x2, i, r2, hx2, by omega, by omega, fun sp w T => ?_⟩
    have co := T.tabs.opt
    have HP1 := Lib.hid (HP2.out sp w T)
    have HT := Lib.hid T
    clear T hset hm hx2 hx3 hp2 hp3 hR usg hS
    go_enter Tryz.func38, Tryz.ntmps38
    go_wp2_with fail
    refine (special_any S _ HNUM.out).mono ?_
    rintro en w1 ⟨rfl, rfl⟩
    go_wp2_with fail
    refine (HR.out _).mono ?_
    rintro en w1 ⟨rfl, rfl⟩
    go_wp2_with fail
    refine (bool2_u64_any _ _).mono ?_
    rintro en w1 ⟨rfl, rfl⟩
    go_wp2_with fail
    refine HP1.out.mono ?_
    rintro en w1 ⟨rfl, hB1⟩
    go_wp2_with fail
    refine (HP3.out sp w1 (HT.out.below hB1)).mono ?_
    rintro en w2 ⟨rfl, hB2⟩
    go_wp2_with fail
    go_ret3
    exact ⟨rfl, hB1.trans (hB2.mono hB1.size)⟩
  | false =>
    obtain ⟨D, hD, hset⟩ := hset
    obtain ⟨x, ovf, hx, hfb⟩ := floatBits_any D hD
    refine ⟨x.toNat, i, if ovf then 1 else 0, hx.toNat_lt, by omega, by split <;> omega, fun sp w T => ?_⟩
    have co := T.tabs.opt
    have HP1 := Lib.hid (HP2.out sp w T)
    have HT := Lib.hid T
    have HSET := Lib.hid hset
    have HFB := Lib.hid hfb
    clear T hset hm hx2 hx3 hp2 hp3 hp3' hR usg hS hx hfb hD
    go_enter Tryz.func38, Tryz.ntmps38
    go_wp2_with fail
    refine (special_any S _ HNUM.out).mono ?_
    rintro en wa ⟨rfl, rfl⟩
    go_wp2_with fail
    refine (HR.out _).mono ?_
    rintro en wb ⟨rfl, rfl⟩
    go_wp2_with fail
    refine (bool2_u64_any _ _).mono ?_
    rintro en wc ⟨rfl, rfl⟩
    go_wp2_with fail
    refine HP1.out.mono ?_
    rintro en w1 ⟨rfl, hB1⟩
    go_wp2_with fail
    refine (HP3.out sp w1 (HT.out.below hB1)).mono ?_
    rintro en w2 ⟨rfl, hB2⟩
    go_upto_region 29 with fail
    obtain ⟨b, hb⟩ : ∃ b, w2.heap.size = b := ⟨_, rfl⟩
    have hBw : Below wb.heap.size wb w2 := hB1.trans (hB2.mono hB1.size)
    have hd0 : DecAt (w2.alloc (.cells Tryz.zeroCells121 121)) b zeroDec := by
      have := Cells.new w2 121 Tryz.zeroCells121 (decC zeroDec) zero_at
      rw [zero_size, hb] at this
      exact this
    have hBa : Below b w2 (w2.alloc (.cells Tryz.zeroCells121 121)) := (Below.refl _ _).alloc (by omega) _
    obtain ⟨W1, hW1⟩ : ∃ W1, w2.alloc (.cells Tryz.zeroCells121 121) = W1 := ⟨_, rfl⟩
    rw [hW1] at hd0 hBa ⊢
    rw [hb]
    have hwb : wb.heap.size ≤ b := by have := hBw.size; omega
    clear hW1
    go_wp2_with fail
    refine (HSET.out _ _ hd0).mono ?_
    rintro en w3 ⟨rfl, hd3, hB3⟩
    have hB5 : Below b w2 w3 := hBa.trans hB3
    have hB6 : Below wb.heap.size wb w3 := hBw.trans (hB5.mono hwb)
    clear hd0 hBa hB3
    go_wp2_with fail
    refine (HFB.out sp b wb w3 HT.out hB6 hwb hd3).mono ?_
    rintro en w4 ⟨rfl, hB4⟩
    have hB7 : Below wb.heap.size wb w4 := hB6.trans (hB4.mono hwb)
    cases ovf
    all_goals (
      go_wp2_with fail
      go_ret3
      exact ⟨rfl, hB7⟩)

set_option maxRecDepth 100000 in
set_option maxHeartbeats 4000000 in
theorem atof_any (S : ByteArray) (hS : Numeric S) (h0 : 0 < S.size) : ∃ x n r : Nat, x < 18446744073709551616 ∧ n ≤ 2000 ∧ r ≤ 2 ∧ AtofIs S x n r := by
  obtain ⟨i0, n0, r, hi0, hn0, hgo, hrr, hm, he0, he1, hi, hR⟩ := readFloat_any S hS h0
  have hsz := hS.1
  have hset := fun h => set_any S hS h0 i0 n0 r hi0 hn0 hgo hrr h
  clear hgo hrr hi0 hn0
  obtain ⟨m, exp, neg, tr, i, ok⟩ := r
  simp only at hm he0 he1 hi hset
  have hR' : ∀ w : World, Calls Tryz.prog 52 #[.string S] w fun e w' => e = .returned (.tuple #[.int .u64 (m : Int), .int .i64 exp, .bool neg, .bool tr, .bool false, .int .i64 (i : Int), .bool ok]) ∧ w' = w := hR
  have HR := Lib.hid hR'
  have HNUM := Lib.hid hS
  have hm64 : m < 18446744073709551616 := by omega
  have HM := Lib.hid hm64
  have hm0 : (0 : Int) ≤ (m : Int) := by omega
  obtain ⟨sg, hsg⟩ : ∃ sg, IntKind.u64.wrap (b2i neg * 9223372036854775808) = sg := ⟨_, rfl⟩
  have usg : U64 sg := hsg ▸ u64_wrap _
  have hsg0 := usg.1
  have HSG := Lib.hid usg
  clear hR hR' hS usg
  cases ok with
  | false =>
    refine ⟨0, i, 2, by decide, by omega, by omega, fun sp w T => ?_⟩
    clear T hset hm hm64
    go_enter Tryz.func38, Tryz.ntmps38
    go_wp2_with fail
    refine (special_any S _ HNUM.out).mono ?_
    rintro en w1 ⟨rfl, rfl⟩
    go_wp2_with fail
    refine (HR.out _).mono ?_
    rintro en w1 ⟨rfl, rfl⟩
    go_wp2_with fail
    go_ret3
    exact ⟨rfl, Below.refl _ _⟩
  | true =>
  have hset := hset rfl
  rcases Nat.eq_zero_or_pos m with hmz | hmp
  · refine ⟨_, i, 0, (land_or sg 0).toNat_lt, by omega, by omega, fun sp w T => ?_⟩
    have co := T.tabs.opt
    subst hmz
    clear T hset hm hm64
    go_enter Tryz.func38, Tryz.ntmps38
    go_wp2_with fail
    refine (special_any S _ HNUM.out).mono ?_
    rintro en w1 ⟨rfl, rfl⟩
    go_wp2_with fail
    refine (HR.out _).mono ?_
    rintro en w1 ⟨rfl, rfl⟩
    go_wp2_with fail
    refine (bool2_u64_any _ _).mono ?_
    rintro en w1 ⟨rfl, rfl⟩
    go_wp2_with fail
    go_ret3
    exact ⟨rfl, Below.refl _ _⟩
  have hmb : ((m : Int) == 0) = false := by rw [beq_eq_false_iff_ne]; omega
  rcases Int.lt_or_le 310 exp with h310 | h310
  · refine ⟨_, i, 1, (land_or sg 9218868437227405312).toNat_lt, by omega, by omega, fun sp w T => ?_⟩
    have co := T.tabs.opt
    clear T hset hm hm64
    go_enter Tryz.func38, Tryz.ntmps38
    go_wp2_with fail
    refine (special_any S _ HNUM.out).mono ?_
    rintro en w1 ⟨rfl, rfl⟩
    go_wp2_with fail
    refine (HR.out _).mono ?_
    rintro en w1 ⟨rfl, rfl⟩
    go_wp2_with fail
    refine (bool2_u64_any _ _).mono ?_
    rintro en w1 ⟨rfl, rfl⟩
    go_wp2_with fail
    go_ret3
    exact ⟨rfl, Below.refl _ _⟩
  rcases Int.lt_or_le exp (-345) with h345 | h345
  · refine ⟨_, i, 0, (land_or sg 0).toNat_lt, by omega, by omega, fun sp w T => ?_⟩
    have co := T.tabs.opt
    clear T hset hm hm64
    go_enter Tryz.func38, Tryz.ntmps38
    go_wp2_with fail
    refine (special_any S _ HNUM.out).mono ?_
    rintro en w1 ⟨rfl, rfl⟩
    go_wp2_with fail
    refine (HR.out _).mono ?_
    rintro en w1 ⟨rfl, rfl⟩
    go_wp2_with fail
    refine (bool2_u64_any _ _).mono ?_
    rintro en w1 ⟨rfl, rfl⟩
    go_wp2_with fail
    go_ret3
    exact ⟨rfl, Below.refl _ _⟩
  obtain ⟨x2, r2, hx2, hr2, hp2⟩ := parse64_any m exp sg hmp hm64 h345 h310 HSG.out
  have HP2 := Lib.hid hp2
  cases tr with
  | false =>
    obtain ⟨x1, ok1, hx1, _, he⟩ := exact_any m exp neg hm64 he0 he1
    have HX := Lib.hid he
    cases ok1 with
    | true =>
      refine ⟨x1, i, 0, hx1, by omega, by omega, fun sp w T => ?_⟩
      have co := T.tabs.opt
      have HX1 := Lib.hid (HX.out sp w T)
      clear T hset hm hm64 he hx1 hx2 hp2
      go_enter Tryz.func38, Tryz.ntmps38
      go_wp2_with fail
      refine (special_any S _ HNUM.out).mono ?_
      rintro en w1 ⟨rfl, rfl⟩
      go_wp2_with fail
      refine (HR.out _).mono ?_
      rintro en w1 ⟨rfl, rfl⟩
      go_wp2_with fail
      refine (bool2_u64_any _ _).mono ?_
      rintro en w1 ⟨rfl, rfl⟩
      go_wp2_with fail
      refine HX1.out.mono ?_
      rintro en w1 ⟨rfl, rfl⟩
      go_wp2_with fail
      go_ret3
      exact ⟨rfl, Below.refl _ _⟩
    | false =>
      refine ⟨x2, i, r2, hx2, by omega, by omega, fun sp w T => ?_⟩
      have co := T.tabs.opt
      have HX1 := Lib.hid (HX.out sp w T)
      have HP1 := Lib.hid (HP2.out sp w T)
      clear T hset hm hm64 he hx1 hx2 hp2
      go_enter Tryz.func38, Tryz.ntmps38
      go_wp2_with fail
      refine (special_any S _ HNUM.out).mono ?_
      rintro en w1 ⟨rfl, rfl⟩
      go_wp2_with fail
      refine (HR.out _).mono ?_
      rintro en w1 ⟨rfl, rfl⟩
      go_wp2_with fail
      refine (bool2_u64_any _ _).mono ?_
      rintro en w1 ⟨rfl, rfl⟩
      go_wp2_with fail
      refine HX1.out.mono ?_
      rintro en w1 ⟨rfl, rfl⟩
      go_wp2_with fail
      refine HP1.out.mono ?_
      rintro en w1 ⟨rfl, hB1⟩
      go_wp2_with fail
      go_ret3
      exact ⟨rfl, hB1⟩
  | true =>
    exact atof_trunc S HNUM.out m i exp sg neg hmp hm hi h310 h345 HSG.out hsg HR.out hset
end Go.Proofs.YtodihpaabkplhaaGreatDoor

namespace Go.Proofs.YtodihpaabkplhaaGreatDoor
open Go.RowKit

set_option maxRecDepth 100000 in
set_option maxHeartbeats 2000000 in
theorem inner_any (S : ByteArray) (hS : Numeric S) (h0 : 0 < S.size) : ∃ x r : Nat, x < 18446744073709551616 ∧ r ≤ 2 ∧ ∀ (sp : Spots) (w : World), Tab2 sp w →
    Calls Tryz.prog 19 #[.string S, .int .i64 64] w fun e w' => e = .returned (.tuple #[.float .f64 x, errV r]) ∧ Below w.heap.size w w' := by
  obtain ⟨x, n, r, hx, hn, hr, hA⟩ := atof_any S hS h0
  have hpre : ∀ (sp : Spots) (w : World), Tab2 sp w → Calls Tryz.prog 23 #[.string S, .int .i64 64] w fun e w' => e = .returned (.tuple #[.float .f64 x, .int .i64 n, errV r]) ∧ Below w.heap.size w w' := by
    intro sp w T
    have HA := Lib.hid (hA sp w T)
    clear T hx
    go_enter Tryz.func23, Tryz.ntmps23
    go_wp2_with fail
    refine HA.out.mono ?_
    rintro en w1 ⟨rfl, hB⟩
    go_wp2_with fail
    go_ret3
    exact ⟨rfl, hB⟩
  have HP := Lib.hid hpre
  have hsz := hS.1
  clear hpre hA
  by_cases hns : n = S.size
  · refine ⟨x, r, hx, hr, fun sp w T => ?_⟩
    have HP1 := Lib.hid (HP.out sp w T)
    have hne : ((n : Int) != (S.size : Int)) = false := by rw [bne_eq_false_iff_eq]; omega
    clear T hx hns
    go_enter Tryz.func19, Tryz.ntmps19
    go_wp2_with fail
    refine HP1.out.mono ?_
    rintro en w1 ⟨rfl, hB⟩
    go_wp2_with fail
    go_ret2
    exact ⟨rfl, hB⟩
  · refine ⟨0, 2, by decide, by omega, fun sp w T => ?_⟩
    have HP1 := Lib.hid (HP.out sp w T)
    have hne : ((n : Int) != (S.size : Int)) = true := by rw [bne_iff_ne]; omega
    clear T hx hns
    go_enter Tryz.func19, Tryz.ntmps19
    go_wp2_with fail
    refine HP1.out.mono ?_
    rintro en w1 ⟨rfl, hB⟩
    go_wp2_with fail
    go_ret2
    exact ⟨rfl, hB⟩

/-- What strconv.ParseFloat gives of a text: the bits, or an error. -/
def Parses (S : ByteArray) : Option Nat → Prop
  | some x => ∀ (sp : Spots) (w : World), Tab2 sp w → Calls Tryz.prog 14 #[.string S, .int .i64 64] w fun e w' => e = .returned (.tuple #[.float .f64 x, .nilIface]) ∧ Below w.heap.size w w'
  | none => ∃ (x : Nat) (t : TypeId), ∀ (sp : Spots) (w : World), Tab2 sp w → Calls Tryz.prog 14 #[.string S, .int .i64 64] w fun e w' => ∃ p, e = .returned (.tuple #[.float .f64 x, .iface t (.pointer p)]) ∧ Below w.heap.size w w'

set_option maxRecDepth 100000 in
set_option maxHeartbeats 2000000 in
theorem parses_ex (S : ByteArray) (hS : Numeric S) (h0 : 0 < S.size) : ∃ r : Option Nat, Parses S r ∧ ∀ x, r = some x → x < 18446744073709551616 := by
  obtain ⟨x, r, hx, hr, hI⟩ := inner_any S hS h0
  have HI := Lib.hid hI
  have hsz := hS.1
  clear hI
  rcases (show r = 0 ∨ r = 1 ∨ r = 2 by omega) with rfl | rfl | rfl
  · refine ⟨some x, fun sp w T => ?_, fun y e => by cases e; exact hx⟩
    have HI1 := Lib.hid (HI.out sp w T)
    clear T hx
    go_enter Tryz.func14, Tryz.ntmps14
    go_wp2_with fail
    refine HI1.out.mono ?_
    rintro en w1 ⟨rfl, hB⟩
    have e0 : errV 0 = .nilIface := rfl
    go_wp2_with fail
    go_ret2
    exact ⟨rfl, hB⟩
  · refine ⟨none, ⟨x, 76, fun sp w T => ?_⟩, fun y e => by cases e⟩
    have HI1 := Lib.hid (HI.out sp w T)
    have HT := Lib.hid T
    clear T hx
    go_enter Tryz.func14, Tryz.ntmps14
    go_wp2_with fail
    refine HI1.out.mono ?_
    rintro en w1 ⟨rfl, hB⟩
    obtain ⟨te, pe, hv⟩ := (HT.out.below hB).rng
    have e1 : errV 1 = .iface 75 (.int .i64 1) := rfl
    have hto := strconv_toError_range ⟨#[80, 97, 114, 115, 101, 70, 108, 111, 97, 116]⟩ S 0 64 (.iface te pe) w1 (by omega) hv (Or.inr ⟨te, pe, rfl⟩)
    go_wp2_with fail
    refine hto.mono ?_
    rintro en w2 ⟨N, rfl, hN, hc, hB2⟩
    go_wp2_with fail
    go_ret2
    exact ⟨_, rfl, hB.trans (hB2.mono hB.size)⟩
  · refine ⟨none, ⟨x, 76, fun sp w T => ?_⟩, fun y e => by cases e⟩
    have HI1 := Lib.hid (HI.out sp w T)
    have HT := Lib.hid T
    clear T hx
    go_enter Tryz.func14, Tryz.ntmps14
    go_wp2_with fail
    refine HI1.out.mono ?_
    rintro en w1 ⟨rfl, hB⟩
    obtain ⟨te, pe, hv⟩ := (HT.out.below hB).syn
    have e1 : errV 2 = .iface 75 (.int .i64 2) := rfl
    have hto := strconv_toError_syntax ⟨#[80, 97, 114, 115, 101, 70, 108, 111, 97, 116]⟩ S 0 64 (.iface te pe) w1 (by omega) hv (Or.inr ⟨te, pe, rfl⟩)
    go_wp2_with fail
    refine hto.mono ?_
    rintro en w2 ⟨N, rfl, hN, hc, hB2⟩
    go_wp2_with fail
    go_ret2
    exact ⟨_, rfl, hB.trans (hB2.mono hB.size)⟩
/-- What strconv.ParseFloat gives, as a function of the text. -/
noncomputable def pfF (S : ByteArray) : Option Nat := open Classical in if h : ∃ r : Option Nat, Parses S r ∧ ∀ x, r = some x → x < 18446744073709551616 then h.choose else none
theorem pfF_parses (S : ByteArray) (hS : Numeric S) (h0 : 0 < S.size) : Parses S (pfF S) ∧ ∀ x, pfF S = some x → x < 18446744073709551616 := by
  have h := parses_ex S hS h0
  unfold pfF
  rw [dif_pos h]
  exact h.choose_spec
end Go.Proofs.YtodihpaabkplhaaGreatDoor
