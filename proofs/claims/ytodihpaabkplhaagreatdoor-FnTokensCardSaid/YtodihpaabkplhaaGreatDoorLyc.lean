/- The law FnTokens. -/
import Derived.Test.YtodihpaabkplhaaGreatDoorLyb
import Derived.Test.YtodihpaabkplhaaGreatDoorLxn
namespace Go.Proofs.YtodihpaabkplhaaGreatDoor
open Go.RowKit

theorem wordsL_len (l : List Wd) : (wordsL l).length = 5 * l.length := by
  induction l with
  | nil => rfl
  | cons d l ih => simp [wordsL, wordC] at ih ⊢; omega
theorem wordsL_at (p q : List Wd) (d : Wd) (k : Nat) (hk : k < 5) : (wordsL (p ++ d :: q))[p.length * 5 + k]? = (wordC d).toList[k]? := by
  have e : wordsL (p ++ d :: q) = wordsL p ++ ((wordC d).toList ++ wordsL q) := by simp [wordsL]
  rw [e, List.getElem?_append_right (by rw [wordsL_len]; omega), wordsL_len, show p.length * 5 + k - 5 * p.length = k by omega, List.getElem?_append_left (by simpa [wordC] using hk)]

set_option maxRecDepth 100000 in
set_option maxHeartbeats 4000000 in
theorem fnTokens_main (S : ByteArray) (sp : Spots) (w : World) (hS : Asc S) (hT : Tab2 sp w) (hz : S.size ≤ 2147483647) :
    Calls Tryz.prog 3 #[.string S] w fun e w' => e = .returned (.bool true) ∧ Below w.heap.size w w' := by
  obtain ⟨r, hr⟩ := run_ex pfF S _ 0 rfl (Nat.zero_le _)
  have hok := run_ok hr
  have hsz := hS.1
  have hxa := xAsked_any S w hz
  have hwd := words_any S r sp w hS hr hT
  have htk := fun w1 h1 => tokens_any S r sp w1 hS hr (hT.below h1)
  have hpt := fun w1 h1 => tokens_any _ _ sp w1 asc_point (run_point pfF) (hT.below h1)
  have HS := Lib.hid hS
  have HOK := Lib.hid hok
  have HXA := Lib.hid hxa
  have HWD := Lib.hid hwd
  have HTK := Lib.hid htk
  have HPT := Lib.hid hpt
  clear hS hok hxa hwd htk hpt hr hT
  go_enter Tryz.func3, Tryz.ntmps3
  conv => arg 4; dsimp only
  go_wp2_with fail
  refine HXA.out.mono ?_
  rintro en w0 ⟨⟨b, rfl, hb⟩, rfl⟩
  clear HXA
  cases b with
  | false =>
    go_wp2_with fail
    go_ret
    exact ⟨rfl, Below.refl _ _⟩
  | true =>
  clear hb
  go_wp2_with fail
  refine HWD.out.mono ?_
  rintro en w1 ⟨hy1, hn1, hb1⟩
  have HT1 := Lib.hid (HTK.out w1 hb1)
  have HP1 := Lib.hid HPT.out
  clear HWD HTK HPT
  cases r with
  | none =>
    obtain ⟨x1, rfl⟩ := hn1 rfl
    have HB1 := Lib.hid hb1
    clear hy1 hn1 hb1
    go_wp2_with fail
    refine HT1.out.mono ?_
    rintro en w2 ⟨hy2, hn2, hb2⟩
    obtain ⟨a1, n1, c1, a2, n2, c2, rfl⟩ := hn2 rfl
    have hb02 : Below w0.heap.size w0 w2 := HB1.out.trans (hb2.mono HB1.out.size)
    have HB2 := Lib.hid hb02
    have HP2 := Lib.hid (HP1.out w2 hb02)
    clear hy2 hn2 hb2 hb02 HT1 HP1 HB1
    go_wp2_with fail
    refine HP2.out.mono ?_
    rintro en w3 ⟨hy3, hn3, hb3⟩
    obtain ⟨kv, nv, rfl, _⟩ := hy3 _ rfl
    have HB3 := Lib.hid (HB2.out.trans (hb3.mono HB2.out.size))
    clear hy3 hn3 hb3 HP2
    go_wp2_with fail
    go_ret
    exact ⟨rfl, HB3.out⟩
  | some l =>
    obtain ⟨ov, rfl, how⟩ := hy1 l rfl
    have HOV := Lib.hid how
    have HB1 := Lib.hid hb1
    clear hy1 hn1 hb1 how
    go_wp2_with fail
    refine HT1.out.mono ?_
    rintro en w2 ⟨hy2, hn2, hb2⟩
    obtain ⟨kv, nv, rfl, hrow⟩ := hy2 l rfl
    have hb02 : Below w0.heap.size w0 w2 := HB1.out.trans (hb2.mono HB1.out.size)
    have HB2 := Lib.hid hb02
    have HB12 := Lib.hid hb2
    have HR2 := Lib.hid hrow
    have HP2 := Lib.hid (HP1.out w2 hb02)
    clear hy2 hn2 hb2 hb02 HT1 HP1 hrow
    go_wp2_with fail
    refine HP2.out.mono ?_
    rintro en w3 ⟨hy3, hn3, hb3⟩
    obtain ⟨kv3, nv3, rfl, _⟩ := hy3 _ rfl
    have hov3 : w3.ownsRow w0.heap.size 32 5 ov l.length (wordsL l) := own_heap HOV.out (fun k hk => ((hb3.block k (Nat.lt_of_lt_of_le (HOV.out.lt k hk).2 HB12.out.size))).trans (HB12.out.block k (HOV.out.lt k hk).2))
    have hk3 := own_read (own_heap (w' := w3) HR2.out.k (fun k hk => hb3.block k (HR2.out.k.lt k hk).2))
    have hn3' := own_read (own_heap (w' := w3) HR2.out.n (fun k hk => hb3.block k (HR2.out.n.lt k hk).2))
    have HB3 := Lib.hid (HB2.out.trans (hb3.mono HB2.out.size))
    have HO3 := Lib.hid hov3
    have HK3 := Lib.hid hk3
    have HN3 := Lib.hid hn3'
    obtain ⟨ao, an, ac, rfl⟩ := own_sl HOV.out
    obtain ⟨hll, hwd⟩ := HOK.out l rfl
    have hllen : l.length ≤ 2000 := by omega
    have HWD := Lib.hid hwd
    have han : an = l.length := by
      rcases HOV.out.2 with ⟨h, h0⟩ | ⟨g, cap, cur, h, _⟩
      · cases h; omega
      · cases h; rfl
    obtain ⟨n, hn⟩ : ∃ n, l.length = n := ⟨_, rfl⟩
    have HLN := Lib.hid hn
    rw [hn] at han hllen
    subst han
    clear hy3 hn3 hb3 HP2 HB12 HB2 HR2 hov3 hk3 hn3' HOV HOK hll hwd hn HB1
    go_wp2_with fail
    go_loopg [11, 12, 49] an (fun q wv vv iv wr => ∃ p s : List Wd, l = p ++ s ∧ s.length = q ∧ iv = .int .i64 (p.length : Nat) ∧ Two w3.heap.size w3 wv (kindsL p) vv (numsL p) wr)
    case atStart => exact ⟨[], l, rfl, HLN.out, rfl, World.ownsRow_nil _ _ _ _, World.ownsRow_nil _ _ _ _, by simp [Value.ownBlock], Below.refl _ _, Nat.le_refl _⟩
    case round =>
      obtain ⟨p, s, hl, hq, rfl, htwo⟩ := hrel
      have HTW := Lib.hid htwo
      clear htwo
      cases s with
      | nil =>
        have hpl : p = l := by rw [hl, List.append_nil]
        subst hpl
        have hge : ¬ ((p.length : Nat) : Int) < (an : Int) := by rw [HLN.out]; omega
        have hkk : kindsL p = (p.map codeW).map fun x => Value.int .i64 x := by simp [kindsL]
        have hnn : numsL p = ((p.filter fun d => d.sign == 35).map fun d => d.num).map fun x => Value.float .f64 x := by simp [numsL]
        have hk3 := HK3.out.below HTW.out.bel
        have hn3 := HN3.out.below HTW.out.bel
        have hkw := own_read HTW.out.k
        have hnw := own_read HTW.out.n
        rw [hkk] at hk3 hkw
        rw [hnn] at hn3 hnw
        have hgi := gInts_any (p.map codeW) kv u11 wr (by rw [List.length_map, HLN.out]; omega) hk3 hkw
        have hsf := sameFloats_any ((p.filter fun d => d.sign == 35).map fun d => d.num) nv u12 wr (by rw [List.length_map]; have := List.length_filter_le (fun d : Wd => d.sign == 35) p; have := HLN.out; omega) hn3 hnw
        have hBf : Below w0.heap.size w0 wr := HB3.out.trans (HTW.out.bel.mono HB3.out.size)
        have HGI := Lib.hid hgi
        have HSF := Lib.hid hsf
        have HBF := Lib.hid hBf
        clear hkk hnn hk3 hn3 hkw hnw hgi hsf hBf HTW hl HK3 HN3 HO3 HWD hq
        go_wp2_with fail
        refine HGI.out.mono ?_
        rintro en w4 ⟨rfl, rfl⟩
        go_wp2_with fail
        refine HSF.out.mono ?_
        rintro en w5 ⟨rfl, hb5⟩
        have HB5 := Lib.hid (HBF.out.trans (hb5.mono HBF.out.size))
        clear hb5
        go_wp2_with fail
        go_ret
        exact ⟨rfl, HB5.out⟩
      | cons d s =>
        obtain ⟨i, hi⟩ : ∃ i, p.length = i := ⟨_, rfl⟩
        have hlt : (i : Int) < (an : Int) := by have := congrArg List.length hl; rw [HLN.out, List.length_append, List.length_cons] at this; omega
        obtain ⟨g, hg, hcs⟩ : ∃ g, ao = some ⟨g, 0, none⟩ ∧ ∀ k, k < 5 → wr.cell? ⟨g, i * 5 + k, none⟩ = (wordC d).toList[k]? := by
          have ho := HO3.out
          rw [HLN.out] at ho
          rcases ho.2 with ⟨h, h0⟩ | ⟨g, cap, cur, h, _⟩
          · omega
          · cases h
            refine ⟨g, rfl, fun k hk => ?_⟩
            have hc := ho.cellAt (i * 5 + k) (by omega)
            rw [hl, ← hi, wordsL_at p s d k hk] at hc
            rw [hi] at hc
            rw [show (wordC d).toList[k]? = some ((wordC d).toList[k]'(by simpa [wordC] using hk)) from List.getElem?_eq_getElem _] at hc ⊢
            exact cell_kept HTW.out.bel hc
        subst hg
        have c0 := hcs 0 (by omega)
        have c1 := hcs 1 (by omega)
        have c2 := hcs 2 (by omega)
        have c3 := hcs 3 (by omega)
        have c4 := hcs 4 (by omega)
        have hdk := HWD.out d (by rw [hl]; simp)
        have HDK := Lib.hid hdk
        rw [hi]
        simp only [wordC, List.getElem?_cons_zero, List.getElem?_cons_succ, Nat.add_zero] at c0 c1 c2 c3 c4
        clear hcs hdk
        have hTA := HTW.out.alloc (.cells (wordC d) 32)
        have hSA := HTW.out.new (.cells (wordC d) 32)
        have HTS := Lib.hid (And.intro hTA hSA)
        clear hTA hSA HTW
        go_upto_region 26 with fail
        obtain ⟨W, hW⟩ : ∃ W, (wr.alloc (.cells (wordC d) 32)) = W := ⟨_, rfl⟩
        have hts := HTS.out
        rw [hW] at hts
        change wr.alloc (.cells #[.int .u8 d.sign, .int .i64 d.kind, .int .i64 d.lay, .bool d.empty, .float .f64 d.num] 32) = W at hW
        rw [hW]
        obtain ⟨pb, hpb⟩ : ∃ pb, wr.heap.size = pb := ⟨_, rfl⟩
        rw [hpb] at hts ⊢
        obtain ⟨hTA, hSA⟩ := hts
        have c0 : W.cell? ⟨pb, 0, none⟩ = some (.int .u8 d.sign) := by rw [Lib.cell_of_heap hSA.here]; rfl
        have c1 : W.cell? ⟨pb, 1, none⟩ = some (.int .i64 d.kind) := by rw [Lib.cell_of_heap hSA.here]; rfl
        have c2 : W.cell? ⟨pb, 2, none⟩ = some (.int .i64 d.lay) := by rw [Lib.cell_of_heap hSA.here]; rfl
        have c3 : W.cell? ⟨pb, 3, none⟩ = some (.bool d.empty) := by rw [Lib.cell_of_heap hSA.here]; rfl
        have c4 : W.cell? ⟨pb, 4, none⟩ = some (.float .f64 d.num) := by rw [Lib.cell_of_heap hSA.here]; rfl
        have HTA := Lib.hid hTA
        have HSA := Lib.hid hSA
        have hkn := kindsL_app p d
        have hlp : (kindsL p).length ≤ 100000 := by have := congrArg List.length hl; rw [HLN.out, List.length_append] at this; simp [kindsL]; omega
        have hln : (numsL p).length ≤ 100000 := by have h1 := numsL_len p; simp [kindsL] at hlp; omega
        have hi1 : (i : Int) + 1 ≤ 2001 := by omega
        have HKN := Lib.hid hkn
        have hpd : (p ++ [d]).length = i + 1 := by rw [List.length_append, hi]; rfl
        have hlpd : l = (p ++ [d]) ++ s := by rw [hl]; simp
        have hsq : s.length + 1 = gk := hq
        have HPD := Lib.hid (And.intro hpd hlpd)
        clear hTA hSA hW hpb HTS HO3 HB3 HK3 HN3 hz hsz hkn hpd hlpd hq hi hl
        obtain ⟨q, rfl⟩ : ∃ q, gk = q + 1 := ⟨s.length, hsq.symm⟩
        have hsq2 : s.length = q := by omega
        clear hsq
        have hs127 := HDK.out.sign
        have hk7 := HDK.out.kind
        have hl4 := HDK.out.lay
        by_cases h35 : d.sign = 35
        · have hb35 : ((d.sign : Int) == 35) = true := by rw [beq_iff_eq]; omega
          have hcode : codeW d = 57375 := by unfold codeW; rw [if_pos h35]
          have HNA := Lib.hid (numsL_app p d h35)
          have HCO := Lib.hid hcode
          clear hcode h35 hs127 hk7 hl4
          go_upto_region 27 with fail
          clear c0 c1 c2 c3 c4
          refine wp_region_any (by kernel_rfl) ?_
          change wpAny _ _ _ _ _ _ _ (World.drew _)
          have HP : Hid (Side u11 u12 W.drew pb _) := Lib.hid (show Side u11 u12 W.drew pb _ from ⟨HSA.out.here, HSA.out.k, HSA.out.n⟩)
          have HT : Hid (Two w3.heap.size w3 u11 (kindsL p) u12 (numsL p) W.drew) := Lib.hid ⟨HTA.out.k, HTA.out.n, HTA.out.ne, HTA.out.bel.drew, HTA.out.sz⟩
          clear HSA HTA
          refine wpAny_take (i := 0) (v := ?_) rfl (by kernel_rfl) (by kernel_rfl) (by kernel_rfl) (fun _ _ _ h => h) (Or.inl ⟨by rfl, ?hy⟩) ?_
          case hy => (intro _; go_simp; try with_reducible rfl)
          refine wpAny_take (i := 3) (v := ?_) rfl (by kernel_rfl) (by kernel_rfl) (by kernel_rfl) (fun _ _ _ h => h) (Or.inl ⟨by rfl, ?hy⟩) ?_
          case hy => (intro _; go_simp; try with_reducible rfl)
          refine wpAny_take (i := 4) (v := ?_) rfl (by kernel_rfl) (by kernel_rfl) (by kernel_rfl) (fun _ _ _ h => h) (Or.inl ⟨by rfl, ?hy⟩) ?_
          case hy => (intro _; go_simp; try with_reducible rfl)
          refine wpAny_ready (rs := [1, 5]) (by kernel_rfl) (by simp) ?_
          refine AllReady.cons rfl (fun K hK => ?_) ?_
          · go_simp
            refine hK _ _ ?_
            clear hK K
            have HT2 := Lib.hid (HT.out.alloc (.cells #[.int .i64 57375] 3))
            have HA := Lib.hid (HT.out.new (.cells #[.int .i64 57375] 3))
            have HP2 := Lib.hid (HP.out.alloc (.cells #[.int .i64 57375] 3))
            clear HT
            have HT := HT2
            clear HT2
            clear HP
            have HP := HP2
            clear HP2
            refine wpAny_ready (rs := [2, 5]) (by kernel_rfl) (by simp) ?_
            refine AllReady.cons rfl (fun K hK => ?_) ?_
            · refine step_push _ _ rfl 3 26 1 8 (.int .i64 0) rfl info_int Tryz.underlying26 rfl (by decide) (by decide) w3.heap.size u11 (kindsL p).length (kindsL p) _ #[.int .i64 57375] rfl (by intro u hu; simp at hu; subst hu; rfl) (by rfl) (by rfl) HA.out.here HT.out.k hlp HT.out.sz ?_
              intro k5 w5 ho hg
              (try go_simp)
              refine hK _ _ ?_
              clear hK K
              have HT2 := Lib.hid (HT.out.pushK ho hg)
              have HP2 := Lib.hid (HP.out.pushK hg)
              clear ho hg
              clear HT
              have HT := HT2
              clear HT2
              clear HP
              have HP := HP2
              clear HP2
              refine wpAny_ready (rs := [5]) (by kernel_rfl) (by simp) ?_
              refine AllReady.cons rfl (fun K hK => ?_) AllReady.nil
              have c4 := HP.out.cell4
              go_simp
              refine hK _ _ ?_
              clear hK K c4
              refine wpAny_ready (rs := [6]) (by kernel_rfl) (by simp) ?_
              refine AllReady.cons rfl (fun K hK => ?_) AllReady.nil
              go_simp
              refine hK _ _ ?_
              clear hK K
              have HT2 := Lib.hid (HT.out.alloc (.cells #[.float .f64 d.num] 30))
              have HF := Lib.hid (HT.out.new (.cells #[.float .f64 d.num] 30))
              have HP2 := Lib.hid (HP.out.alloc (.cells #[.float .f64 d.num] 30))
              clear HT
              have HT := HT2
              clear HT2
              clear HP
              have HP := HP2
              clear HP2
              refine wpAny_ready (rs := [7]) (by kernel_rfl) (by simp) ?_
              refine AllReady.cons rfl (fun K hK => ?_) AllReady.nil
              refine step_push _ _ rfl 30 27 1 8 (.float .f64 0) rfl info_flt Tryz.underlying27 rfl (by decide) (by decide) w3.heap.size u12 (numsL p).length (numsL p) _ #[.float .f64 d.num] rfl (by intro u hu; simp at hu; subst hu; rfl) (by rfl) (by rfl) HF.out.here HT.out.n hln HT.out.sz ?_
              intro k6 w6 ho hg
              (try go_simp)
              refine hK _ _ ?_
              clear hK K
              have HT2 := Lib.hid (HT.out.pushN ho hg)
              have HP2 := Lib.hid (HP.out.pushN hg)
              clear ho hg
              clear HT
              have HT := HT2
              clear HT2
              clear HP
              have HP := HP2
              clear HP2
              refine wpAny_take (i := 8) (v := ?_) rfl (by kernel_rfl) (by kernel_rfl) (by kernel_rfl) (fun _ _ _ h => h) (Or.inl ⟨by rfl, ?hy⟩) ?_
              case hy => (intro _; go_simp; try with_reducible rfl)
              refine wpAny_take (i := 9) (v := ?_) rfl (by kernel_rfl) (by kernel_rfl) (by kernel_rfl) (fun _ _ _ h => h) (Or.inl ⟨by rfl, ?hy⟩) ?_
              case hy => (intro _; go_simp; try with_reducible rfl)
              refine wpAny_done (by kernel_rfl) ?_ _
              go_wp2_with fail
              go_roundg q
              case measure => omega
              case rel => exact ⟨p ++ [d], s, HPD.out.2, hsq2, by rw [HPD.out.1]; go_num, by rw [HKN.out, HNA.out, HCO.out]; exact HT.out⟩
            refine AllReady.cons rfl (fun K hK => ?_) AllReady.nil
            have c4 : (World.alloc W (.cells #[.int .i64 57375] 3)).cell? ⟨pb, 4, none⟩ = some (.float .f64 d.num) := HP.out.cell4
            go_simp
            refine hK _ _ ?_
            clear hK K c4
            refine wpAny_ready (rs := [2, 6]) (by kernel_rfl) (by simp) ?_
            refine AllReady.cons rfl (fun K hK => ?_) ?_
            · refine step_push _ _ rfl 3 26 1 8 (.int .i64 0) rfl info_int Tryz.underlying26 rfl (by decide) (by decide) w3.heap.size u11 (kindsL p).length (kindsL p) _ #[.int .i64 57375] rfl (by intro u hu; simp at hu; subst hu; rfl) (by rfl) (by rfl) HA.out.here HT.out.k hlp HT.out.sz ?_
              intro k5 w5 ho hg
              (try go_simp)
              refine hK _ _ ?_
              clear hK K
              have HT2 := Lib.hid (HT.out.pushK ho hg)
              have HP2 := Lib.hid (HP.out.pushK hg)
              clear ho hg
              clear HT
              have HT := HT2
              clear HT2
              clear HP
              have HP := HP2
              clear HP2
              refine wpAny_ready (rs := [6]) (by kernel_rfl) (by simp) ?_
              refine AllReady.cons rfl (fun K hK => ?_) AllReady.nil
              go_simp
              refine hK _ _ ?_
              clear hK K
              have HT2 := Lib.hid (HT.out.alloc (.cells #[.float .f64 d.num] 30))
              have HF := Lib.hid (HT.out.new (.cells #[.float .f64 d.num] 30))
              have HP2 := Lib.hid (HP.out.alloc (.cells #[.float .f64 d.num] 30))
              clear HT
              have HT := HT2
              clear HT2
              clear HP
              have HP := HP2
              clear HP2
              refine wpAny_ready (rs := [7]) (by kernel_rfl) (by simp) ?_
              refine AllReady.cons rfl (fun K hK => ?_) AllReady.nil
              refine step_push _ _ rfl 30 27 1 8 (.float .f64 0) rfl info_flt Tryz.underlying27 rfl (by decide) (by decide) w3.heap.size u12 (numsL p).length (numsL p) _ #[.float .f64 d.num] rfl (by intro u hu; simp at hu; subst hu; rfl) (by rfl) (by rfl) HF.out.here HT.out.n hln HT.out.sz ?_
              intro k6 w6 ho hg
              (try go_simp)
              refine hK _ _ ?_
              clear hK K
              have HT2 := Lib.hid (HT.out.pushN ho hg)
              have HP2 := Lib.hid (HP.out.pushN hg)
              clear ho hg
              clear HT
              have HT := HT2
              clear HT2
              clear HP
              have HP := HP2
              clear HP2
              refine wpAny_take (i := 8) (v := ?_) rfl (by kernel_rfl) (by kernel_rfl) (by kernel_rfl) (fun _ _ _ h => h) (Or.inl ⟨by rfl, ?hy⟩) ?_
              case hy => (intro _; go_simp; try with_reducible rfl)
              refine wpAny_take (i := 9) (v := ?_) rfl (by kernel_rfl) (by kernel_rfl) (by kernel_rfl) (fun _ _ _ h => h) (Or.inl ⟨by rfl, ?hy⟩) ?_
              case hy => (intro _; go_simp; try with_reducible rfl)
              refine wpAny_done (by kernel_rfl) ?_ _
              go_wp2_with fail
              go_roundg q
              case measure => omega
              case rel => exact ⟨p ++ [d], s, HPD.out.2, hsq2, by rw [HPD.out.1]; go_num, by rw [HKN.out, HNA.out, HCO.out]; exact HT.out⟩
            refine AllReady.cons rfl (fun K hK => ?_) AllReady.nil
            go_simp
            refine hK _ _ ?_
            clear hK K
            have HT2 := Lib.hid (HT.out.alloc (.cells #[.float .f64 d.num] 30))
            have HF := Lib.hid (HT.out.new1 (.cells #[.float .f64 d.num] 30))
            have HP2 := Lib.hid (HP.out.alloc (.cells #[.float .f64 d.num] 30))
            have HA2 := Lib.hid (HA.out.alloc (.cells #[.float .f64 d.num] 30))
            clear HT
            have HT := HT2
            clear HT2
            clear HP
            have HP := HP2
            clear HP2
            clear HA
            have HA := HA2
            clear HA2
            refine wpAny_ready (rs := [2]) (by kernel_rfl) (by simp) ?_
            refine AllReady.cons rfl (fun K hK => ?_) AllReady.nil
            refine step_push _ _ rfl 3 26 1 8 (.int .i64 0) rfl info_int Tryz.underlying26 rfl (by decide) (by decide) w3.heap.size u11 (kindsL p).length (kindsL p) _ #[.int .i64 57375] rfl (by intro u hu; simp at hu; subst hu; rfl) (by rfl) (by rfl) HA.out.here HT.out.k hlp HT.out.sz ?_
            intro k5 w5 ho hg
            (try go_simp)
            refine hK _ _ ?_
            clear hK K
            have HT2 := Lib.hid (HT.out.pushK ho hg)
            have HP2 := Lib.hid (HP.out.pushK hg)
            have HF2 := Lib.hid (HF.out.pushK hg)
            clear ho hg
            clear HT
            have HT := HT2
            clear HT2
            clear HP
            have HP := HP2
            clear HP2
            clear HF
            have HF := HF2
            clear HF2
            refine wpAny_ready (rs := [7]) (by kernel_rfl) (by simp) ?_
            refine AllReady.cons rfl (fun K hK => ?_) AllReady.nil
            refine step_push _ _ rfl 30 27 1 8 (.float .f64 0) rfl info_flt Tryz.underlying27 rfl (by decide) (by decide) w3.heap.size u12 (numsL p).length (numsL p) _ #[.float .f64 d.num] rfl (by intro u hu; simp at hu; subst hu; rfl) (by rfl) (by rfl) HF.out.here HT.out.n hln HT.out.sz ?_
            intro k6 w6 ho hg
            (try go_simp)
            refine hK _ _ ?_
            clear hK K
            have HT2 := Lib.hid (HT.out.pushN ho hg)
            have HP2 := Lib.hid (HP.out.pushN hg)
            clear ho hg
            clear HT
            have HT := HT2
            clear HT2
            clear HP
            have HP := HP2
            clear HP2
            refine wpAny_take (i := 8) (v := ?_) rfl (by kernel_rfl) (by kernel_rfl) (by kernel_rfl) (fun _ _ _ h => h) (Or.inl ⟨by rfl, ?hy⟩) ?_
            case hy => (intro _; go_simp; try with_reducible rfl)
            refine wpAny_take (i := 9) (v := ?_) rfl (by kernel_rfl) (by kernel_rfl) (by kernel_rfl) (fun _ _ _ h => h) (Or.inl ⟨by rfl, ?hy⟩) ?_
            case hy => (intro _; go_simp; try with_reducible rfl)
            refine wpAny_done (by kernel_rfl) ?_ _
            go_wp2_with fail
            go_roundg q
            case measure => omega
            case rel => exact ⟨p ++ [d], s, HPD.out.2, hsq2, by rw [HPD.out.1]; go_num, by rw [HKN.out, HNA.out, HCO.out]; exact HT.out⟩
          refine AllReady.cons rfl (fun K hK => ?_) AllReady.nil
          have c4 := HP.out.cell4
          go_simp
          refine hK _ _ ?_
          clear hK K c4
          refine wpAny_ready (rs := [1, 6]) (by kernel_rfl) (by simp) ?_
          refine AllReady.cons rfl (fun K hK => ?_) ?_
          · go_simp
            refine hK _ _ ?_
            clear hK K
            have HT2 := Lib.hid (HT.out.alloc (.cells #[.int .i64 57375] 3))
            have HA := Lib.hid (HT.out.new (.cells #[.int .i64 57375] 3))
            have HP2 := Lib.hid (HP.out.alloc (.cells #[.int .i64 57375] 3))
            clear HT
            have HT := HT2
            clear HT2
            clear HP
            have HP := HP2
            clear HP2
            refine wpAny_ready (rs := [2, 6]) (by kernel_rfl) (by simp) ?_
            refine AllReady.cons rfl (fun K hK => ?_) ?_
            · refine step_push _ _ rfl 3 26 1 8 (.int .i64 0) rfl info_int Tryz.underlying26 rfl (by decide) (by decide) w3.heap.size u11 (kindsL p).length (kindsL p) _ #[.int .i64 57375] rfl (by intro u hu; simp at hu; subst hu; rfl) (by rfl) (by rfl) HA.out.here HT.out.k hlp HT.out.sz ?_
              intro k5 w5 ho hg
              (try go_simp)
              refine hK _ _ ?_
              clear hK K
              have HT2 := Lib.hid (HT.out.pushK ho hg)
              have HP2 := Lib.hid (HP.out.pushK hg)
              clear ho hg
              clear HT
              have HT := HT2
              clear HT2
              clear HP
              have HP := HP2
              clear HP2
              refine wpAny_ready (rs := [6]) (by kernel_rfl) (by simp) ?_
              refine AllReady.cons rfl (fun K hK => ?_) AllReady.nil
              go_simp
              refine hK _ _ ?_
              clear hK K
              have HT2 := Lib.hid (HT.out.alloc (.cells #[.float .f64 d.num] 30))
              have HF := Lib.hid (HT.out.new (.cells #[.float .f64 d.num] 30))
              have HP2 := Lib.hid (HP.out.alloc (.cells #[.float .f64 d.num] 30))
              clear HT
              have HT := HT2
              clear HT2
              clear HP
              have HP := HP2
              clear HP2
              refine wpAny_ready (rs := [7]) (by kernel_rfl) (by simp) ?_
              refine AllReady.cons rfl (fun K hK => ?_) AllReady.nil
              refine step_push _ _ rfl 30 27 1 8 (.float .f64 0) rfl info_flt Tryz.underlying27 rfl (by decide) (by decide) w3.heap.size u12 (numsL p).length (numsL p) _ #[.float .f64 d.num] rfl (by intro u hu; simp at hu; subst hu; rfl) (by rfl) (by rfl) HF.out.here HT.out.n hln HT.out.sz ?_
              intro k6 w6 ho hg
              (try go_simp)
              refine hK _ _ ?_
              clear hK K
              have HT2 := Lib.hid (HT.out.pushN ho hg)
              have HP2 := Lib.hid (HP.out.pushN hg)
              clear ho hg
              clear HT
              have HT := HT2
              clear HT2
              clear HP
              have HP := HP2
              clear HP2
              refine wpAny_take (i := 8) (v := ?_) rfl (by kernel_rfl) (by kernel_rfl) (by kernel_rfl) (fun _ _ _ h => h) (Or.inl ⟨by rfl, ?hy⟩) ?_
              case hy => (intro _; go_simp; try with_reducible rfl)
              refine wpAny_take (i := 9) (v := ?_) rfl (by kernel_rfl) (by kernel_rfl) (by kernel_rfl) (fun _ _ _ h => h) (Or.inl ⟨by rfl, ?hy⟩) ?_
              case hy => (intro _; go_simp; try with_reducible rfl)
              refine wpAny_done (by kernel_rfl) ?_ _
              go_wp2_with fail
              go_roundg q
              case measure => omega
              case rel => exact ⟨p ++ [d], s, HPD.out.2, hsq2, by rw [HPD.out.1]; go_num, by rw [HKN.out, HNA.out, HCO.out]; exact HT.out⟩
            refine AllReady.cons rfl (fun K hK => ?_) AllReady.nil
            go_simp
            refine hK _ _ ?_
            clear hK K
            have HT2 := Lib.hid (HT.out.alloc (.cells #[.float .f64 d.num] 30))
            have HF := Lib.hid (HT.out.new1 (.cells #[.float .f64 d.num] 30))
            have HP2 := Lib.hid (HP.out.alloc (.cells #[.float .f64 d.num] 30))
            have HA2 := Lib.hid (HA.out.alloc (.cells #[.float .f64 d.num] 30))
            clear HT
            have HT := HT2
            clear HT2
            clear HP
            have HP := HP2
            clear HP2
            clear HA
            have HA := HA2
            clear HA2
            refine wpAny_ready (rs := [2]) (by kernel_rfl) (by simp) ?_
            refine AllReady.cons rfl (fun K hK => ?_) AllReady.nil
            refine step_push _ _ rfl 3 26 1 8 (.int .i64 0) rfl info_int Tryz.underlying26 rfl (by decide) (by decide) w3.heap.size u11 (kindsL p).length (kindsL p) _ #[.int .i64 57375] rfl (by intro u hu; simp at hu; subst hu; rfl) (by rfl) (by rfl) HA.out.here HT.out.k hlp HT.out.sz ?_
            intro k5 w5 ho hg
            (try go_simp)
            refine hK _ _ ?_
            clear hK K
            have HT2 := Lib.hid (HT.out.pushK ho hg)
            have HP2 := Lib.hid (HP.out.pushK hg)
            have HF2 := Lib.hid (HF.out.pushK hg)
            clear ho hg
            clear HT
            have HT := HT2
            clear HT2
            clear HP
            have HP := HP2
            clear HP2
            clear HF
            have HF := HF2
            clear HF2
            refine wpAny_ready (rs := [7]) (by kernel_rfl) (by simp) ?_
            refine AllReady.cons rfl (fun K hK => ?_) AllReady.nil
            refine step_push _ _ rfl 30 27 1 8 (.float .f64 0) rfl info_flt Tryz.underlying27 rfl (by decide) (by decide) w3.heap.size u12 (numsL p).length (numsL p) _ #[.float .f64 d.num] rfl (by intro u hu; simp at hu; subst hu; rfl) (by rfl) (by rfl) HF.out.here HT.out.n hln HT.out.sz ?_
            intro k6 w6 ho hg
            (try go_simp)
            refine hK _ _ ?_
            clear hK K
            have HT2 := Lib.hid (HT.out.pushN ho hg)
            have HP2 := Lib.hid (HP.out.pushN hg)
            clear ho hg
            clear HT
            have HT := HT2
            clear HT2
            clear HP
            have HP := HP2
            clear HP2
            refine wpAny_take (i := 8) (v := ?_) rfl (by kernel_rfl) (by kernel_rfl) (by kernel_rfl) (fun _ _ _ h => h) (Or.inl ⟨by rfl, ?hy⟩) ?_
            case hy => (intro _; go_simp; try with_reducible rfl)
            refine wpAny_take (i := 9) (v := ?_) rfl (by kernel_rfl) (by kernel_rfl) (by kernel_rfl) (fun _ _ _ h => h) (Or.inl ⟨by rfl, ?hy⟩) ?_
            case hy => (intro _; go_simp; try with_reducible rfl)
            refine wpAny_done (by kernel_rfl) ?_ _
            go_wp2_with fail
            go_roundg q
            case measure => omega
            case rel => exact ⟨p ++ [d], s, HPD.out.2, hsq2, by rw [HPD.out.1]; go_num, by rw [HKN.out, HNA.out, HCO.out]; exact HT.out⟩
          refine AllReady.cons rfl (fun K hK => ?_) AllReady.nil
          go_simp
          refine hK _ _ ?_
          clear hK K
          have HT2 := Lib.hid (HT.out.alloc (.cells #[.float .f64 d.num] 30))
          have HF := Lib.hid (HT.out.new (.cells #[.float .f64 d.num] 30))
          have HP2 := Lib.hid (HP.out.alloc (.cells #[.float .f64 d.num] 30))
          clear HT
          have HT := HT2
          clear HT2
          clear HP
          have HP := HP2
          clear HP2
          refine wpAny_ready (rs := [1]) (by kernel_rfl) (by simp) ?_
          refine AllReady.cons rfl (fun K hK => ?_) AllReady.nil
          go_simp
          refine hK _ _ ?_
          clear hK K
          have HT2 := Lib.hid (HT.out.alloc (.cells #[.int .i64 57375] 3))
          have HA := Lib.hid (HT.out.new1 (.cells #[.int .i64 57375] 3))
          have HP2 := Lib.hid (HP.out.alloc (.cells #[.int .i64 57375] 3))
          have HF2 := Lib.hid (HF.out.alloc (.cells #[.int .i64 57375] 3))
          clear HT
          have HT := HT2
          clear HT2
          clear HP
          have HP := HP2
          clear HP2
          clear HF
          have HF := HF2
          clear HF2
          refine wpAny_ready (rs := [2]) (by kernel_rfl) (by simp) ?_
          refine AllReady.cons rfl (fun K hK => ?_) AllReady.nil
          refine step_push _ _ rfl 3 26 1 8 (.int .i64 0) rfl info_int Tryz.underlying26 rfl (by decide) (by decide) w3.heap.size u11 (kindsL p).length (kindsL p) _ #[.int .i64 57375] rfl (by intro u hu; simp at hu; subst hu; rfl) (by rfl) (by rfl) HA.out.here HT.out.k hlp HT.out.sz ?_
          intro k5 w5 ho hg
          (try go_simp)
          refine hK _ _ ?_
          clear hK K
          have HT2 := Lib.hid (HT.out.pushK ho hg)
          have HP2 := Lib.hid (HP.out.pushK hg)
          have HF2 := Lib.hid (HF.out.pushK hg)
          clear ho hg
          clear HT
          have HT := HT2
          clear HT2
          clear HP
          have HP := HP2
          clear HP2
          clear HF
          have HF := HF2
          clear HF2
          refine wpAny_ready (rs := [7]) (by kernel_rfl) (by simp) ?_
          refine AllReady.cons rfl (fun K hK => ?_) AllReady.nil
          refine step_push _ _ rfl 30 27 1 8 (.float .f64 0) rfl info_flt Tryz.underlying27 rfl (by decide) (by decide) w3.heap.size u12 (numsL p).length (numsL p) _ #[.float .f64 d.num] rfl (by intro u hu; simp at hu; subst hu; rfl) (by rfl) (by rfl) HF.out.here HT.out.n hln HT.out.sz ?_
          intro k6 w6 ho hg
          (try go_simp)
          refine hK _ _ ?_
          clear hK K
          have HT2 := Lib.hid (HT.out.pushN ho hg)
          have HP2 := Lib.hid (HP.out.pushN hg)
          clear ho hg
          clear HT
          have HT := HT2
          clear HT2
          clear HP
          have HP := HP2
          clear HP2
          refine wpAny_take (i := 8) (v := ?_) rfl (by kernel_rfl) (by kernel_rfl) (by kernel_rfl) (fun _ _ _ h => h) (Or.inl ⟨by rfl, ?hy⟩) ?_
          case hy => (intro _; go_simp; try with_reducible rfl)
          refine wpAny_take (i := 9) (v := ?_) rfl (by kernel_rfl) (by kernel_rfl) (by kernel_rfl) (fun _ _ _ h => h) (Or.inl ⟨by rfl, ?hy⟩) ?_
          case hy => (intro _; go_simp; try with_reducible rfl)
          refine wpAny_done (by kernel_rfl) ?_ _
          go_wp2_with fail
          go_roundg q
          case measure => omega
          case rel => exact ⟨p ++ [d], s, HPD.out.2, hsq2, by rw [HPD.out.1]; go_num, by rw [HKN.out, HNA.out, HCO.out]; exact HT.out⟩
        have hb35 : ((d.sign : Int) == 35) = false := by rw [beq_eq_false_iff_ne]; omega
        have HNA := Lib.hid (numsL_app0 p d h35)
        by_cases h0 : d.sign = 0
        rotate_left
        · have hb0 : ((d.sign : Int) != 0) = true := by simp; omega
          have hcode : codeW d = d.sign := by unfold codeW; rw [if_neg h35, if_pos h0]
          have hwr : wrap64 (d.sign : Int) = d.sign := IntWalk.wrap64_in _ ⟨by omega, by omega⟩
          have HCO := Lib.hid hcode
          clear hcode h35 h0 hs127 hk7 hl4
          go_wp2_with (at_builtin; go_loud (refine push_one _ _ rfl 3 26 1 8 (.int .i64 0) rfl info_int Tryz.underlying26 rfl (by decide) (by decide) w3.heap.size u11 (kindsL p).length (kindsL p) _ _ rfl (by intro u hu; simp at hu; subst hu; rfl) (by rfl) (by rfl) HTA.out.k hlp HTA.out.sz ?_))
          intro kv' w4 hk4 hg4
          have htw4 := HTA.out.pushK hk4 hg4
          have HT4 := Lib.hid htw4
          clear hk4 hg4 htw4
          go_wp2_with fail
          go_roundg q
          case measure => omega
          case rel => exact ⟨p ++ [d], s, HPD.out.2, hsq2, by rw [HPD.out.1]; go_num, by rw [HKN.out, HNA.out, HCO.out]; exact HT4.out⟩
        have hb0 : ((d.sign : Int) != 0) = false := by simp; omega
        cases hem : d.empty
        rotate_left
        · have hcode : codeW d = 57374 := by unfold codeW; rw [if_neg h35, if_neg (by omega), if_pos hem]
          have HCO := Lib.hid hcode
          clear hcode h35 h0 hs127 hk7 hl4
          go_wp2_with (at_builtin; go_loud (refine push_one _ _ rfl 3 26 1 8 (.int .i64 0) rfl info_int Tryz.underlying26 rfl (by decide) (by decide) w3.heap.size u11 (kindsL p).length (kindsL p) _ _ rfl (by intro u hu; simp at hu; subst hu; rfl) (by rfl) (by rfl) HTA.out.k hlp HTA.out.sz ?_))
          intro kv' w4 hk4 hg4
          have htw4 := HTA.out.pushK hk4 hg4
          have HT4 := Lib.hid htw4
          clear hk4 hg4 htw4
          go_wp2_with fail
          go_roundg q
          case measure => omega
          case rel => exact ⟨p ++ [d], s, HPD.out.2, hsq2, by rw [HPD.out.1]; go_num, by rw [HKN.out, HNA.out, HCO.out]; exact HT4.out⟩
        have hk0 : (0 : Int) ≤ (d.kind : Int) := by omega
        have hkI : (d.kind : Int) ≤ 7 := by omega
        by_cases hy3 : d.lay = 3
        · have hcode : codeW d = 57346 + 4 * ((d.kind : Int) - 1) + 1 := by unfold codeW; rw [if_neg h35, if_neg (by omega), if_neg (by simp [hem])]; rw [if_pos hy3]
          have HCO := Lib.hid hcode
          have hbs : ((d.lay : Int) == 3) = true := by skip <;> simp <;> omega
          clear hcode h35 h0 hs127 hk7 hl4
          go_wp2_with (at_builtin; go_loud (refine push_one _ _ rfl 3 26 1 8 (.int .i64 0) rfl info_int Tryz.underlying26 rfl (by decide) (by decide) w3.heap.size u11 (kindsL p).length (kindsL p) _ _ rfl (by intro u hu; simp at hu; subst hu; rfl) (by rfl) (by rfl) HTA.out.k hlp HTA.out.sz ?_))
          intro kv' w4 hk4 hg4
          have htw4 := HTA.out.pushK hk4 hg4
          have HT4 := Lib.hid htw4
          clear hk4 hg4 htw4
          go_wp2_with fail
          go_roundg q
          case measure => omega
          case rel => exact ⟨p ++ [d], s, HPD.out.2, hsq2, by rw [HPD.out.1]; go_num, by rw [HKN.out, HNA.out, HCO.out]; exact HT4.out⟩

        by_cases hy2 : d.lay = 2
        · have hcode : codeW d = 57346 + 4 * ((d.kind : Int) - 1) + 2 := by unfold codeW; rw [if_neg h35, if_neg (by omega), if_neg (by simp [hem])]; rw [if_neg hy3]; rw [if_pos hy2]
          have HCO := Lib.hid hcode
          have hbs : ((d.lay : Int) == 3) = false ∧ ((d.lay : Int) == 2) = true := by refine ⟨?_, ?_⟩ <;> simp <;> omega
          obtain ⟨hb3, hb2⟩ := hbs
          clear hcode h35 h0 hs127 hk7 hl4
          go_wp2_with (at_builtin; go_loud (refine push_one _ _ rfl 3 26 1 8 (.int .i64 0) rfl info_int Tryz.underlying26 rfl (by decide) (by decide) w3.heap.size u11 (kindsL p).length (kindsL p) _ _ rfl (by intro u hu; simp at hu; subst hu; rfl) (by rfl) (by rfl) HTA.out.k hlp HTA.out.sz ?_))
          intro kv' w4 hk4 hg4
          have htw4 := HTA.out.pushK hk4 hg4
          have HT4 := Lib.hid htw4
          clear hk4 hg4 htw4
          go_wp2_with fail
          go_roundg q
          case measure => omega
          case rel => exact ⟨p ++ [d], s, HPD.out.2, hsq2, by rw [HPD.out.1]; go_num, by rw [HKN.out, HNA.out, HCO.out]; exact HT4.out⟩

        by_cases hy4 : d.lay = 4
        · have hcode : codeW d = 57346 + 4 * ((d.kind : Int) - 1) + 3 := by unfold codeW; rw [if_neg h35, if_neg (by omega), if_neg (by simp [hem])]; rw [if_neg hy3]; rw [if_neg hy2]; rw [if_pos hy4]
          have HCO := Lib.hid hcode
          have hbs : ((d.lay : Int) == 3) = false ∧ ((d.lay : Int) == 2) = false ∧ ((d.lay : Int) == 4) = true := by refine ⟨?_, ?_, ?_⟩ <;> simp <;> omega
          obtain ⟨hb3, hb2, hb4⟩ := hbs
          clear hcode h35 h0 hs127 hk7 hl4
          go_wp2_with (at_builtin; go_loud (refine push_one _ _ rfl 3 26 1 8 (.int .i64 0) rfl info_int Tryz.underlying26 rfl (by decide) (by decide) w3.heap.size u11 (kindsL p).length (kindsL p) _ _ rfl (by intro u hu; simp at hu; subst hu; rfl) (by rfl) (by rfl) HTA.out.k hlp HTA.out.sz ?_))
          intro kv' w4 hk4 hg4
          have htw4 := HTA.out.pushK hk4 hg4
          have HT4 := Lib.hid htw4
          clear hk4 hg4 htw4
          go_wp2_with fail
          go_roundg q
          case measure => omega
          case rel => exact ⟨p ++ [d], s, HPD.out.2, hsq2, by rw [HPD.out.1]; go_num, by rw [HKN.out, HNA.out, HCO.out]; exact HT4.out⟩

        have hcode : codeW d = 57346 + 4 * ((d.kind : Int) - 1) := by unfold codeW; rw [if_neg h35, if_neg (by omega), if_neg (by simp [hem]), if_neg hy3, if_neg hy2, if_neg hy4]; exact Int.add_zero _
        have HCO := Lib.hid hcode
        have hbs : ((d.lay : Int) == 3) = false ∧ ((d.lay : Int) == 2) = false ∧ ((d.lay : Int) == 4) = false := by refine ⟨?_, ?_, ?_⟩ <;> simp <;> omega
        obtain ⟨hb3, hb2, hb4⟩ := hbs
        clear hcode h35 h0 hs127 hk7 hl4
        go_wp2_with (at_builtin; go_loud (refine push_one _ _ rfl 3 26 1 8 (.int .i64 0) rfl info_int Tryz.underlying26 rfl (by decide) (by decide) w3.heap.size u11 (kindsL p).length (kindsL p) _ _ rfl (by intro u hu; simp at hu; subst hu; rfl) (by rfl) (by rfl) HTA.out.k hlp HTA.out.sz ?_))
        intro kv' w4 hk4 hg4
        have htw4 := HTA.out.pushK hk4 hg4
        have HT4 := Lib.hid htw4
        clear hk4 hg4 htw4
        go_wp2_with fail
        go_roundg q
        case measure => omega
        case rel => exact ⟨p ++ [d], s, HPD.out.2, hsq2, by rw [HPD.out.1]; go_num, by rw [HKN.out, HNA.out, HCO.out]; exact HT4.out⟩
end Go.Proofs.YtodihpaabkplhaaGreatDoor
