/- keyword. -/
import Derived.Test.YtodihpaabkplhaaGreatDoorLxe
namespace Go.Proofs.YtodihpaabkplhaaGreatDoor
open Go.RowKit

theorem greatN_lt (c : Nat) (h : c < 128) : greatN c < 128 := by unfold greatN; split <;> omega
theorem greatN_fix (c : Nat) : greatN (greatN c) = greatN c := by unfold greatN; split <;> (try split) <;> omega
theorem capsF_cap (S : ByteArray) (i e : Nat) (hS : Asc S) : capL (capsF S i e) := by
  intro c hc
  simp only [capsF, List.mem_map] at hc
  obtain ⟨k, _, rfl⟩ := hc
  have h1 := greatN_lt _ (hS.lt k)
  have h2 : (greatB (ch S k)).toNat = greatN (ch S k) := by unfold greatB; simp; omega
  rw [h2]
  exact ⟨h1, greatN_fix _⟩
theorem capL_app {l : List UInt8} {c : UInt8} (h : capL l) (hc : c.toNat < 128 ∧ greatN c.toNat = c.toNat) : capL (l ++ [c]) := by
  intro x hx
  rcases List.mem_append.1 hx with h1 | h1
  · exact h x h1
  · rw [List.mem_singleton.1 h1]; exact hc
theorem mName_cap (S : ByteArray) (i e k : Nat) (hS : Asc S) : capL (mName S k (capsF S i e)) := by
  have h0 := capsF_cap S i e hS
  have h1 : capL (zName S k (capsF S i e)) := by
    unfold zName
    split
    · exact capL_app h0 (by decide)
    · exact h0
  unfold mName
  split
  · exact capL_app h1 (by decide)
  · exact h1
theorem mName_len (S : ByteArray) (k : Nat) (l : List UInt8) : (mName S k l).length ≤ l.length + 2 := by
  unfold mName zName
  split <;> split <;> simp

theorem codeW_ne (l : List UInt8) (d : Wd) (h : named l = some d) : codeW d ≠ 0 := by
  unfold named at h
  split at h
  · cases h
    decide
  · rw [Option.map_eq_some_iff] at h
    obtain ⟨p, hp, rfl⟩ := h
    have h1 := List.mem_of_find?_eq_some hp
    have h2 : ∀ p ∈ pairsN, codeW ⟨0, p.1, p.2, false, 0⟩ ≠ 0 := by decide +kernel
    exact h2 p h1
theorem Span.uniq {P : Nat → Prop} {S : ByteArray} {i e e' : Nat} (h : Span P S i e) (h' : Span P S i e') : e = e' := by
  rcases Nat.lt_trichotomy e e' with c | c | c
  · have h1 := h'.all e h.le c
    rcases h.stop with h2 | h2
    · have := h'.end_le; omega
    · exact absurd h1 h2
  · exact c
  · have h1 := h.all e' h'.le c
    rcases h'.stop with h2 | h2
    · have := h.end_le; omega
    · exact absurd h1 h2

/-- The ends of keyword. -/
def KEnd (b : Nat) (S : ByteArray) (p e : Nat) (w : World) (en : Ending) (w' : World) : Prop :=
  (capsF S p e = emptyN → en = .returned (.int .i64 57374) ∧ LexAt w' b S e .nilIface ∧ Frm b w w') ∧
  (capsF S p e ≠ emptyN → ∀ k, Span blankN S e k → (∀ d, named (mName S k (capsF S p e)) = some d → en = .returned (.int .i64 (codeW d)) ∧ LexAt w' b S (mEnd S k) .nilIface ∧ Frm b w w') ∧
    (named (mName S k (capsF S p e)) = none → en = .returned (.int .i64 0) ∧ (∃ t v, LexAt w' b S (mEnd S k) (.iface t v)) ∧ Below b w w'))

set_option maxRecDepth 100000 in
set_option maxHeartbeats 4000000 in
theorem keyword_any (b : Nat) (S : ByteArray) (p e : Nat) (w : World) (hS : Asc S) (he : Span letN S p e) (h : LexAt w b S p .nilIface) :
    Calls Tryz.prog 33 #[.pointer (some ⟨b, 0, none⟩)] w (KEnd b S p e w) := by
  have hbw := h.lt
  have HS := Lib.hid hS
  have HK := Lib.hid he
  have hpe := he.le
  have hes := he.end_le
  have hsz := hS.1
  obtain ⟨o, hO⟩ : ∃ o : Obj, o = .cells #[.pointer none, .slice none 0 0] 97 (0, 0) := ⟨_, rfl⟩
  have hnew := bldF_new w
  have hL0 : LexAt (w.alloc (.cells #[.pointer none, .slice none 0 0] 97 (0, 0))) b S p .nilIface := h.heap (Below.heap_alloc w _ b hbw)
  have hF0 : Frm b w (w.alloc (.cells #[.pointer none, .slice none 0 0] 97 (0, 0))) := (Frm.refl b w).alloc (Nat.le_of_lt hbw) _
  clear hS he h hO o
  have HN := Lib.hid hnew
  have HL := Lib.hid hL0
  have HF := Lib.hid hF0
  clear hnew hL0 hF0
  go_enter Tryz.func33, Tryz.ntmps33
  go_wp2_with fail
  go_loopg [] (e - p) (fun g wr => ∃ j : Nat, p ≤ j ∧ g + j = e ∧ LexAt wr b S j .nilIface ∧ BldF wr w.heap.size w.heap.size (capsF S p j) ∧ Frm b w wr)
  case atStart => exact ⟨p, Nat.le_refl _, by omega, HL.out, by rw [capsF_nil]; exact HN.out, HF.out⟩
  case round =>
    clear HN HL HF
    obtain ⟨j, hj, hjk, hl, hbd, hf⟩ := hrel
    have hpk := peek_any b S j .nilIface wr HS.out (by omega) hl
    have hlt := fun wx => letter_any (ch S j) wx (HS.out.lt j)
    have hbl : gk ≠ 0 → letN (ch S j) := fun h0 => HK.out.all j hj (by omega)
    have hnb : gk = 0 → ¬ letN (ch S j) := fun h0 => by
      have : j = e := by omega
      rw [this]
      rcases HK.out.stop with hz | hz
      · rw [ch_end S e (by omega)]
        unfold letN
        omega
      · exact hz
    cases gk with
    | zero =>
      have hje : j = e := by omega
      have hd : decide (letN (ch S j)) = false := decide_eq_false (hnb rfl)
      rw [hje] at hl hbd hd hpk hlt
      have HP := Lib.hid hpk
      have HLT := Lib.hid hlt
      have HD := Lib.hid hd
      have HBD := Lib.hid hbd
      have HLX := Lib.hid hl
      have HF := Lib.hid hf
      clear hpk hlt hbl hnb hd hbd hl hf hje hjk hj
      go_wp2_with fail
      refine HP.out.mono ?_
      rintro en w1 ⟨rfl, n, rfl⟩
      go_wp2_with fail
      refine (HLT.out _).mono ?_
      rintro en w1 ⟨rfl, rfl⟩
      rw [HD.out]
      go_wp2_with fail
      have hstr := fun wx (hb : BldF wx w.heap.size w.heap.size (capsF S p e)) (hs : w.heap.size ≤ wx.heap.size) => Builder_String_any_f w.heap.size w.heap.size (capsF S p e) wx hb hs
      have HSTR := Lib.hid hstr
      clear hstr
      refine (HSTR.out _ (bldF_only HBD.out ((Only.refl b wr).drewN n) hbw) HF.out.below.size).mono ?_
      rintro en w2 ⟨rfl, hb2, ho2⟩
      have HBD2 := Lib.hid (show BldF w2 w.heap.size w.heap.size (capsF S p e) from hb2)
      have hl2 : LexAt w2 b S e .nilIface := (HLX.out.drewN n).below ho2 hbw
      have hf2 : Frm b w w2 := (HF.out.drewN n).above ho2 (Nat.le_refl _) (Nat.le_of_lt hbw)
      have HLX2 := Lib.hid hl2
      have HF2 := Lib.hid hf2
      clear hb2 ho2 hl2 hf2 HBD HLX HF
      by_cases hE : capsF S p e = emptyN
      · have hEb : (!capsF S p e == [69, 77, 80, 84, 89]) = false := by rw [hE]; rfl
        have hkw := kw_some _ _ (show named (capsF S p e) = some _ by rw [hE]; exact named_empty)
        have HKW := Lib.hid hkw
        have HE := Lib.hid hE
        clear hkw hE
        go_wp2_with fail
        refine (HSTR.out _ HBD2.out HF2.out.below.size).mono ?_
        rintro en w3 ⟨rfl, hb3, ho3⟩
        have hl3 := HLX2.out.below ho3 hbw
        have hf3 := HF2.out.above ho3 (Nat.le_refl _) (Nat.le_of_lt hbw)
        clear hb3 ho3
        go_wp2_with fail
        refine (HKW.out _).mono ?_
        rintro en w4 ⟨rfl, ho4⟩
        have hl4 := hl3.below ho4 hl3.lt
        have hf4 := hf3.above ho4 hf3.below.size (Nat.le_of_lt hl3.lt)
        have hcode : codeW ⟨0, 0, 0, true, 0⟩ = 57374 := rfl
        rw [hcode]
        clear hl3 hf3 ho4
        go_wp2_with fail
        go_ret
        exact ⟨fun _ => ⟨rfl, hl4, hf4⟩, fun h => absurd HE.out h⟩
      · have hEb : (!capsF S p e == [69, 77, 80, 84, 89]) = true := by
          rw [Bool.not_eq_true', beq_eq_false_iff_ne]
          exact hE
        obtain ⟨k, hk⟩ := span_ex blankN S e hes
        have hke := hk.end_le
        have htr := fun wx (hx : LexAt wx b S e .nilIface) => trim_lex b S e k .nilIface wx HS.out hk hx
        have HE := Lib.hid hE
        have HKK := Lib.hid hk
        have HTR := Lib.hid htr
        clear hE hk htr
        go_wp2_with fail
        refine (HTR.out _ HLX2.out).mono ?_
        rintro en w3 ⟨rfl, hl3, ho3⟩
        have HL := Lib.hid hl3
        have HB := Lib.hid (bldF_only HBD2.out ho3 hbw)
        have HF := Lib.hid (HF2.out.only ho3)
        clear hl3 ho3 HBD2 HLX2 HF2
        have hpk := fun wx hx => peek_any b S k .nilIface wx HS.out hke hx
        have hup := fun wx => upper_any (ch S k) wx (HS.out.lt k)
        have HP2 := Lib.hid hpk
        have HUP := Lib.hid hup
        have hw := fun c (hc : c < 128) l (hl : l.length ≤ 3000) wx (hb : BldF wx w.heap.size w.heap.size l) (hs : w.heap.size ≤ wx.heap.size) => writeRuneF_any w.heap.size w.heap.size l c wx hc hb (by omega) hs
        have HWZ := Lib.hid (fun l hl wx hb hs => show Calls Tryz.prog 45 #[.pointer (some ⟨w.heap.size, 0, none⟩), .int .i32 90] wx _ from hw 90 (by decide) l hl wx hb hs)
        have HWM := Lib.hid (fun l hl wx hb hs => show Calls Tryz.prog 45 #[.pointer (some ⟨w.heap.size, 0, none⟩), .int .i32 77] wx _ from hw 77 (by decide) l hl wx hb hs)
        have HST := Lib.hid (fun l wx (hb : BldF wx w.heap.size w.heap.size l) (hs : w.heap.size ≤ wx.heap.size) => Builder_String_any_f w.heap.size w.heap.size l wx hb hs)
        clear hpk hup hw HSTR HP HLT
        have hlen : (capsF S p e).length ≤ 2000 := by rw [capsF_length]; omega
        have HLEN := Lib.hid hlen
        clear hlen
        go_wp2_with fail
        refine (HP2.out _ HL.out).mono ?_
        rintro en w4 ⟨rfl, n4, rfl⟩
        go_wp2_with fail
        refine (HUP.out _).mono ?_
        rintro en w5 ⟨rfl, rfl⟩
        have HL4 := Lib.hid (HL.out.drewN n4)
        have HB4 := Lib.hid (bldF_only HB.out ((Only.refl b w3).drewN n4) hbw)
        have HF4 := Lib.hid (HF.out.drewN n4)
        clear HL HB HF
        by_cases hz : greatN (ch S k) = 90
        · have hzb : ((greatN (ch S k) : Int) == 90) = true := by rw [beq_iff_eq]; omega
          have hlt : k < S.size := Nat.lt_of_not_le fun hh => by rw [ch_end S _ hh] at hz; exact absurd hz (by decide)
          have hzE : zEnd S k = k + 1 := by unfold zEnd; rw [if_pos hz]
          have hzN : zName S k (capsF S p e) = capsF S p e ++ [90] := by unfold zName; rw [if_pos hz]
          have hnx := next_any b S k .nilIface _ HS.out hlt HL4.out
          have HNX := Lib.hid hnx
          have HZ := Lib.hid hz
          clear hz hnx
          go_wp2_with fail
          refine HNX.out.mono ?_
          rintro en w6 ⟨rfl, hl6, ho6⟩
          have HB5 := Lib.hid (bldF_only HB4.out ho6 hbw)
          have HF5 := Lib.hid (HF4.out.only ho6)
          clear HL4 HB4 HF4 ho6 HNX
          go_wp2_with fail
          refine (HWZ.out (capsF S p e) (by have := HLEN.out; omega) _ HB5.out HF5.out.below.size).mono ?_
          rintro en w5 ⟨rfl, hb7, ho7⟩
          have HL5 := Lib.hid (hl6.below ho7 hbw)
          have HB55 := Lib.hid (show BldF w5 w.heap.size w.heap.size (capsF S p e ++ [90]) from hb7)
          have HF55 := Lib.hid (HF5.out.above ho7 (Nat.le_refl _) (Nat.le_of_lt hbw))
          clear HB5 HF5 hl6 hb7 ho7
          have HB5 := HB55
          have HF5 := HF55
          clear HB55 HF55
          have hpk := peek_any b S (k + 1) .nilIface _ HS.out (by omega) HL5.out
          have hup := fun wx => upper_any (ch S (k + 1)) wx (HS.out.lt (k + 1))
          have HP3 := Lib.hid hpk
          have HUP3 := Lib.hid hup
          clear hpk hup
          go_wp2_with fail
          refine HP3.out.mono ?_
          rintro en w6 ⟨rfl, n6, rfl⟩
          go_wp2_with fail
          refine (HUP3.out _).mono ?_
          rintro en w7 ⟨rfl, rfl⟩
          have HL6 := Lib.hid (HL5.out.drewN n6)
          have HB6 := Lib.hid (bldF_only HB5.out ((Only.refl b _).drewN n6) hbw)
          have HF6 := Lib.hid (HF5.out.drewN n6)
          clear HL5 HB5 HF5 HP3 HUP3
          by_cases hm : greatN (ch S (k + 1)) = 77
          · have hmb : ((greatN (ch S (k + 1)) : Int) == 77) = true := by rw [beq_iff_eq]; omega
            have hlt2 : (k + 1) < S.size := Nat.lt_of_not_le fun hh => by rw [ch_end S _ hh] at hm; exact absurd hm (by decide)
            have hzE2 : mEnd S k = (k + 1) + 1 := by unfold mEnd; rw [hzE, if_pos hm]
            have hzN2 : mName S k (capsF S p e) = (capsF S p e ++ [90]) ++ [77] := by unfold mName; rw [hzE, if_pos hm, hzN]
            have hnx := next_any b S (k + 1) .nilIface _ HS.out hlt2 HL6.out
            have HNX := Lib.hid hnx
            have HM := Lib.hid (And.intro hm (And.intro hzE2 hzN2))
            clear hm hlt2 hzE2 hzN2 hnx
            go_wp2_with fail
            refine HNX.out.mono ?_
            rintro en w8 ⟨rfl, hl8, ho8⟩
            have HB8 := Lib.hid (bldF_only HB6.out ho8 hbw)
            have HF8 := Lib.hid (HF6.out.only ho8)
            clear HB6 HF6 ho8 HNX HL6
            go_wp2_with fail
            refine (HWM.out (capsF S p e ++ [90]) (by have := HLEN.out; simp; omega) _ HB8.out HF8.out.below.size).mono ?_
            rintro en wz ⟨rfl, hb9, ho9⟩
            have HLz := Lib.hid (show LexAt wz b S (mEnd S k) .nilIface by rw [HM.out.2.1]; exact hl8.below ho9 hbw)
            have HBz := Lib.hid (show BldF wz w.heap.size w.heap.size (mName S k (capsF S p e)) by rw [HM.out.2.2]; exact hb9)
            have HFz := Lib.hid (HF8.out.above ho9 (Nat.le_refl _) (Nat.le_of_lt hbw))
            clear hl8 hb9 ho9 HB8 HF8 HM
            have HLEN2 := Lib.hid (Nat.le_trans (mName_len S k (capsF S p e)) (Nat.add_le_add_right HLEN.out 2))
            have hst := HST.out (mName S k (capsF S p e)) wz HBz.out HFz.out.below.size
            have HSTz := Lib.hid hst
            clear hst
            go_wp2_with fail
            refine HSTz.out.mono ?_
            rintro en wy ⟨rfl, -, hoy⟩
            have HLy := Lib.hid (HLz.out.below hoy hbw)
            have HFy := Lib.hid (HFz.out.above hoy (Nat.le_refl _) (Nat.le_of_lt hbw))
            clear hoy HBz HLz HFz HSTz
            go_wp2_with fail
            cases hn : named (mName S k (capsF S p e)) with
            | some d =>
              have hcd : (codeW d == 0) = false := by rw [beq_eq_false_iff_ne]; exact codeW_ne _ _ hn
              have hkw := kw_some _ _ hn
              have HKW := Lib.hid hkw
              have HN := Lib.hid hn
              clear hkw hn
              refine (HKW.out _).mono ?_
              rintro en wx ⟨rfl, hox⟩
              have hlx := HLy.out.below hox HLy.out.lt
              have hfx := HFy.out.above hox HFy.out.below.size (Nat.le_of_lt HLy.out.lt)
              clear hox
              go_wp2_with fail
              go_ret
              refine ⟨fun h => absurd h HE.out, fun _ k' hk' => ?_⟩
              have hkk := HKK.out.uniq hk'
              subst hkk
              refine ⟨fun d' hd' => ?_, fun hd' => ?_⟩
              · rw [HN.out] at hd'
                cases hd'
                exact ⟨rfl, hlx, hfx⟩
              · rw [HN.out] at hd'
                cases hd'
            | none =>
              have hkw := kw_none _ (Nat.le_trans HLEN2.out (by decide)) (mName_cap S p e k HS.out) hn
              have HKW := Lib.hid hkw
              have HN := Lib.hid hn
              clear hkw hn
              refine (HKW.out _).mono ?_
              rintro en wx ⟨rfl, hox⟩
              have hlx := HLy.out.below hox HLy.out.lt
              have hfx := HFy.out.above hox HFy.out.below.size (Nat.le_of_lt HLy.out.lt)
              have hse := fun t ht => setLexError_any b S (mEnd S k) t wx (Nat.le_trans (mEnd_le S k hke) hsz) ht hlx
              have HSE := Lib.hid hse
              clear hox hlx hse
              go_wp2_with fail
              refine (HSE.out _ (by decide)).mono ?_
              rintro en wv ⟨rfl, hlv, hov⟩
              go_wp2_with fail
              go_ret
              refine ⟨fun h => absurd h HE.out, fun _ k' hk' => ?_⟩
              have hkk := HKK.out.uniq hk'
              subst hkk
              refine ⟨fun d' hd' => ?_, fun hd' => ?_⟩
              · rw [HN.out] at hd'
                cases hd'
              · exact ⟨rfl, hlv, hfx.below.trans hov⟩
          · have hmb : ((greatN (ch S (k + 1)) : Int) == 77) = false := by rw [beq_eq_false_iff_ne]; omega
            have hzE2 : mEnd S k = (k + 1) := by unfold mEnd; rw [hzE, if_neg hm]
            have hzN2 : mName S k (capsF S p e) = (capsF S p e ++ [90]) := by unfold mName; rw [hzE, if_neg hm, hzN]
            obtain ⟨wz, hwz⟩ : ∃ wz, World.drewN w5 n6 = wz := ⟨_, rfl⟩
            have HLz := Lib.hid (show LexAt (World.drewN w5 n6) b S (mEnd S k) .nilIface by rw [hzE2]; exact HL6.out)
            have HBz := Lib.hid (show BldF (World.drewN w5 n6) w.heap.size w.heap.size (mName S k (capsF S p e)) by rw [hzN2]; exact HB6.out)
            have HFz := HF6
            rw [hwz] at HLz HBz HFz ⊢
            have HM := Lib.hid (And.intro hm (And.intro hzE2 hzN2))
            clear hm hzE2 hzN2 HL6 HB6 HF6 HM hwz
            have HLEN2 := Lib.hid (Nat.le_trans (mName_len S k (capsF S p e)) (Nat.add_le_add_right HLEN.out 2))
            have hst := HST.out (mName S k (capsF S p e)) wz HBz.out HFz.out.below.size
            have HSTz := Lib.hid hst
            clear hst
            go_wp2_with fail
            refine HSTz.out.mono ?_
            rintro en wy ⟨rfl, -, hoy⟩
            have HLy := Lib.hid (HLz.out.below hoy hbw)
            have HFy := Lib.hid (HFz.out.above hoy (Nat.le_refl _) (Nat.le_of_lt hbw))
            clear hoy HBz HLz HFz HSTz
            go_wp2_with fail
            cases hn : named (mName S k (capsF S p e)) with
            | some d =>
              have hcd : (codeW d == 0) = false := by rw [beq_eq_false_iff_ne]; exact codeW_ne _ _ hn
              have hkw := kw_some _ _ hn
              have HKW := Lib.hid hkw
              have HN := Lib.hid hn
              clear hkw hn
              refine (HKW.out _).mono ?_
              rintro en wx ⟨rfl, hox⟩
              have hlx := HLy.out.below hox HLy.out.lt
              have hfx := HFy.out.above hox HFy.out.below.size (Nat.le_of_lt HLy.out.lt)
              clear hox
              go_wp2_with fail
              go_ret
              refine ⟨fun h => absurd h HE.out, fun _ k' hk' => ?_⟩
              have hkk := HKK.out.uniq hk'
              subst hkk
              refine ⟨fun d' hd' => ?_, fun hd' => ?_⟩
              · rw [HN.out] at hd'
                cases hd'
                exact ⟨rfl, hlx, hfx⟩
              · rw [HN.out] at hd'
                cases hd'
            | none =>
              have hkw := kw_none _ (Nat.le_trans HLEN2.out (by decide)) (mName_cap S p e k HS.out) hn
              have HKW := Lib.hid hkw
              have HN := Lib.hid hn
              clear hkw hn
              refine (HKW.out _).mono ?_
              rintro en wx ⟨rfl, hox⟩
              have hlx := HLy.out.below hox HLy.out.lt
              have hfx := HFy.out.above hox HFy.out.below.size (Nat.le_of_lt HLy.out.lt)
              have hse := fun t ht => setLexError_any b S (mEnd S k) t wx (Nat.le_trans (mEnd_le S k hke) hsz) ht hlx
              have HSE := Lib.hid hse
              clear hox hlx hse
              go_wp2_with fail
              refine (HSE.out _ (by decide)).mono ?_
              rintro en wv ⟨rfl, hlv, hov⟩
              go_wp2_with fail
              go_ret
              refine ⟨fun h => absurd h HE.out, fun _ k' hk' => ?_⟩
              have hkk := HKK.out.uniq hk'
              subst hkk
              refine ⟨fun d' hd' => ?_, fun hd' => ?_⟩
              · rw [HN.out] at hd'
                cases hd'
              · exact ⟨rfl, hlv, hfx.below.trans hov⟩
        · have hzb : ((greatN (ch S k) : Int) == 90) = false := by rw [beq_eq_false_iff_ne]; omega
          have hzE : zEnd S k = k := by unfold zEnd; rw [if_neg hz]
          have hzN : zName S k (capsF S p e) = capsF S p e := by unfold zName; rw [if_neg hz]
          have HZ := Lib.hid hz
          clear hz
          obtain ⟨w5, hw5⟩ : ∃ w5, w3.drewN n4 = w5 := ⟨_, rfl⟩
          have HL5 := HL4
          have HB5 := HB4
          have HF5 := HF4
          rw [hw5] at HL5 HB5 HF5 ⊢
          clear HL4 HB4 HF4 hw5
          have hpk := peek_any b S (k) .nilIface _ HS.out (by omega) HL5.out
          have hup := fun wx => upper_any (ch S (k)) wx (HS.out.lt (k))
          have HP3 := Lib.hid hpk
          have HUP3 := Lib.hid hup
          clear hpk hup
          go_wp2_with fail
          refine HP3.out.mono ?_
          rintro en w6 ⟨rfl, n6, rfl⟩
          go_wp2_with fail
          refine (HUP3.out _).mono ?_
          rintro en w7 ⟨rfl, rfl⟩
          have HL6 := Lib.hid (HL5.out.drewN n6)
          have HB6 := Lib.hid (bldF_only HB5.out ((Only.refl b _).drewN n6) hbw)
          have HF6 := Lib.hid (HF5.out.drewN n6)
          clear HL5 HB5 HF5 HP3 HUP3
          by_cases hm : greatN (ch S (k)) = 77
          · have hmb : ((greatN (ch S (k)) : Int) == 77) = true := by rw [beq_iff_eq]; omega
            have hlt2 : (k) < S.size := Nat.lt_of_not_le fun hh => by rw [ch_end S _ hh] at hm; exact absurd hm (by decide)
            have hzE2 : mEnd S k = (k) + 1 := by unfold mEnd; rw [hzE, if_pos hm]
            have hzN2 : mName S k (capsF S p e) = (capsF S p e) ++ [77] := by unfold mName; rw [hzE, if_pos hm, hzN]
            have hnx := next_any b S (k) .nilIface _ HS.out hlt2 HL6.out
            have HNX := Lib.hid hnx
            have HM := Lib.hid (And.intro hm (And.intro hzE2 hzN2))
            clear hm hlt2 hzE2 hzN2 hnx
            go_wp2_with fail
            refine HNX.out.mono ?_
            rintro en w8 ⟨rfl, hl8, ho8⟩
            have HB8 := Lib.hid (bldF_only HB6.out ho8 hbw)
            have HF8 := Lib.hid (HF6.out.only ho8)
            clear HB6 HF6 ho8 HNX HL6
            go_wp2_with fail
            refine (HWM.out (capsF S p e) (by have := HLEN.out; simp; omega) _ HB8.out HF8.out.below.size).mono ?_
            rintro en wz ⟨rfl, hb9, ho9⟩
            have HLz := Lib.hid (show LexAt wz b S (mEnd S k) .nilIface by rw [HM.out.2.1]; exact hl8.below ho9 hbw)
            have HBz := Lib.hid (show BldF wz w.heap.size w.heap.size (mName S k (capsF S p e)) by rw [HM.out.2.2]; exact hb9)
            have HFz := Lib.hid (HF8.out.above ho9 (Nat.le_refl _) (Nat.le_of_lt hbw))
            clear hl8 hb9 ho9 HB8 HF8 HM
            have HLEN2 := Lib.hid (Nat.le_trans (mName_len S k (capsF S p e)) (Nat.add_le_add_right HLEN.out 2))
            have hst := HST.out (mName S k (capsF S p e)) wz HBz.out HFz.out.below.size
            have HSTz := Lib.hid hst
            clear hst
            go_wp2_with fail
            refine HSTz.out.mono ?_
            rintro en wy ⟨rfl, -, hoy⟩
            have HLy := Lib.hid (HLz.out.below hoy hbw)
            have HFy := Lib.hid (HFz.out.above hoy (Nat.le_refl _) (Nat.le_of_lt hbw))
            clear hoy HBz HLz HFz HSTz
            go_wp2_with fail
            cases hn : named (mName S k (capsF S p e)) with
            | some d =>
              have hcd : (codeW d == 0) = false := by rw [beq_eq_false_iff_ne]; exact codeW_ne _ _ hn
              have hkw := kw_some _ _ hn
              have HKW := Lib.hid hkw
              have HN := Lib.hid hn
              clear hkw hn
              refine (HKW.out _).mono ?_
              rintro en wx ⟨rfl, hox⟩
              have hlx := HLy.out.below hox HLy.out.lt
              have hfx := HFy.out.above hox HFy.out.below.size (Nat.le_of_lt HLy.out.lt)
              clear hox
              go_wp2_with fail
              go_ret
              refine ⟨fun h => absurd h HE.out, fun _ k' hk' => ?_⟩
              have hkk := HKK.out.uniq hk'
              subst hkk
              refine ⟨fun d' hd' => ?_, fun hd' => ?_⟩
              · rw [HN.out] at hd'
                cases hd'
                exact ⟨rfl, hlx, hfx⟩
              · rw [HN.out] at hd'
                cases hd'
            | none =>
              have hkw := kw_none _ (Nat.le_trans HLEN2.out (by decide)) (mName_cap S p e k HS.out) hn
              have HKW := Lib.hid hkw
              have HN := Lib.hid hn
              clear hkw hn
              refine (HKW.out _).mono ?_
              rintro en wx ⟨rfl, hox⟩
              have hlx := HLy.out.below hox HLy.out.lt
              have hfx := HFy.out.above hox HFy.out.below.size (Nat.le_of_lt HLy.out.lt)
              have hse := fun t ht => setLexError_any b S (mEnd S k) t wx (Nat.le_trans (mEnd_le S k hke) hsz) ht hlx
              have HSE := Lib.hid hse
              clear hox hlx hse
              go_wp2_with fail
              refine (HSE.out _ (by decide)).mono ?_
              rintro en wv ⟨rfl, hlv, hov⟩
              go_wp2_with fail
              go_ret
              refine ⟨fun h => absurd h HE.out, fun _ k' hk' => ?_⟩
              have hkk := HKK.out.uniq hk'
              subst hkk
              refine ⟨fun d' hd' => ?_, fun hd' => ?_⟩
              · rw [HN.out] at hd'
                cases hd'
              · exact ⟨rfl, hlv, hfx.below.trans hov⟩
          · have hmb : ((greatN (ch S (k)) : Int) == 77) = false := by rw [beq_eq_false_iff_ne]; omega
            have hzE2 : mEnd S k = (k) := by unfold mEnd; rw [hzE, if_neg hm]
            have hzN2 : mName S k (capsF S p e) = (capsF S p e) := by unfold mName; rw [hzE, if_neg hm, hzN]
            obtain ⟨wz, hwz⟩ : ∃ wz, World.drewN w5 n6 = wz := ⟨_, rfl⟩
            have HLz := Lib.hid (show LexAt (World.drewN w5 n6) b S (mEnd S k) .nilIface by rw [hzE2]; exact HL6.out)
            have HBz := Lib.hid (show BldF (World.drewN w5 n6) w.heap.size w.heap.size (mName S k (capsF S p e)) by rw [hzN2]; exact HB6.out)
            have HFz := HF6
            rw [hwz] at HLz HBz HFz ⊢
            have HM := Lib.hid (And.intro hm (And.intro hzE2 hzN2))
            clear hm hzE2 hzN2 HL6 HB6 HF6 HM hwz
            have HLEN2 := Lib.hid (Nat.le_trans (mName_len S k (capsF S p e)) (Nat.add_le_add_right HLEN.out 2))
            have hst := HST.out (mName S k (capsF S p e)) wz HBz.out HFz.out.below.size
            have HSTz := Lib.hid hst
            clear hst
            go_wp2_with fail
            refine HSTz.out.mono ?_
            rintro en wy ⟨rfl, -, hoy⟩
            have HLy := Lib.hid (HLz.out.below hoy hbw)
            have HFy := Lib.hid (HFz.out.above hoy (Nat.le_refl _) (Nat.le_of_lt hbw))
            clear hoy HBz HLz HFz HSTz
            go_wp2_with fail
            cases hn : named (mName S k (capsF S p e)) with
            | some d =>
              have hcd : (codeW d == 0) = false := by rw [beq_eq_false_iff_ne]; exact codeW_ne _ _ hn
              have hkw := kw_some _ _ hn
              have HKW := Lib.hid hkw
              have HN := Lib.hid hn
              clear hkw hn
              refine (HKW.out _).mono ?_
              rintro en wx ⟨rfl, hox⟩
              have hlx := HLy.out.below hox HLy.out.lt
              have hfx := HFy.out.above hox HFy.out.below.size (Nat.le_of_lt HLy.out.lt)
              clear hox
              go_wp2_with fail
              go_ret
              refine ⟨fun h => absurd h HE.out, fun _ k' hk' => ?_⟩
              have hkk := HKK.out.uniq hk'
              subst hkk
              refine ⟨fun d' hd' => ?_, fun hd' => ?_⟩
              · rw [HN.out] at hd'
                cases hd'
                exact ⟨rfl, hlx, hfx⟩
              · rw [HN.out] at hd'
                cases hd'
            | none =>
              have hkw := kw_none _ (Nat.le_trans HLEN2.out (by decide)) (mName_cap S p e k HS.out) hn
              have HKW := Lib.hid hkw
              have HN := Lib.hid hn
              clear hkw hn
              refine (HKW.out _).mono ?_
              rintro en wx ⟨rfl, hox⟩
              have hlx := HLy.out.below hox HLy.out.lt
              have hfx := HFy.out.above hox HFy.out.below.size (Nat.le_of_lt HLy.out.lt)
              have hse := fun t ht => setLexError_any b S (mEnd S k) t wx (Nat.le_trans (mEnd_le S k hke) hsz) ht hlx
              have HSE := Lib.hid hse
              clear hox hlx hse
              go_wp2_with fail
              refine (HSE.out _ (by decide)).mono ?_
              rintro en wv ⟨rfl, hlv, hov⟩
              go_wp2_with fail
              go_ret
              refine ⟨fun h => absurd h HE.out, fun _ k' hk' => ?_⟩
              have hkk := HKK.out.uniq hk'
              subst hkk
              refine ⟨fun d' hd' => ?_, fun hd' => ?_⟩
              · rw [HN.out] at hd'
                cases hd'
              · exact ⟨rfl, hlv, hfx.below.trans hov⟩
    | succ g =>
      have hd : decide (letN (ch S j)) = true := decide_eq_true (hbl (by omega))
      have hjs : j < S.size := by omega
      have hnx := fun (wx : World) (hx : LexAt wx b S j .nilIface) => next_any b S j .nilIface wx HS.out hjs hx
      have hup := fun wx => upper_any (ch S j) wx (HS.out.lt j)
      have hg128 := greatN_lt _ (HS.out.lt j)
      have hwr := fun wx (hb : BldF wx w.heap.size w.heap.size (capsF S p j)) (hs : w.heap.size ≤ wx.heap.size) => writeRuneF_any w.heap.size w.heap.size (capsF S p j) (greatN (ch S j)) wx hg128 hb (by rw [capsF_length]; omega) hs
      have hcap : capsF S p j ++ [UInt8.ofNat (greatN (ch S j))] = capsF S p (j + 1) := (capsF_succ S p j hj).symm
      rw [hcap] at hwr
      clear hcap hg128
      have HP := Lib.hid hpk
      have HLT := Lib.hid hlt
      have HD := Lib.hid hd
      have HNX := Lib.hid hnx
      have HUP := Lib.hid hup
      have HWR := Lib.hid hwr
      clear hpk hlt hbl hnb hd hnx hup hwr
      go_wp2_with fail
      refine HP.out.mono ?_
      rintro en w1 ⟨rfl, n, rfl⟩
      go_wp2_with fail
      refine (HLT.out _).mono ?_
      rintro en w1 ⟨rfl, rfl⟩
      rw [HD.out]
      go_wp2_with fail
      refine (HNX.out _ (hl.drewN n)).mono ?_
      rintro en w2 ⟨rfl, hl2, ho2⟩
      go_wp2_with fail
      refine (HUP.out _).mono ?_
      rintro en w3 ⟨rfl, rfl⟩
      go_wp2_with fail
      have hf2 := (hf.drewN n).only ho2
      refine (HWR.out _ (bldF_only (bldF_only hbd ((Only.refl b wr).drewN n) hbw) ho2 hbw) hf2.below.size).mono ?_
      rintro en w4 ⟨rfl, hb4, ho4⟩
      go_wp2_with fail
      go_roundg g
      case measure => omega
      case rel => exact ⟨j + 1, by omega, by omega, hl2.below ho4 hbw, hb4, hf2.above ho4 (Nat.le_refl _) (Nat.le_of_lt hbw)⟩
end Go.Proofs.YtodihpaabkplhaaGreatDoor
