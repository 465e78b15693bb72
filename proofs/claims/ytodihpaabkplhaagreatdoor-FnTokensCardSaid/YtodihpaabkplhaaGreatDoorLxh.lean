/- num. Lex. -/
import Derived.Test.YtodihpaabkplhaaGreatDoorLxf
import Derived.Test.YtodihpaabkplhaaGreatDoorPpf
import Derived.BigRegion
import Derived.RegionTactic

namespace Go.Proofs.YtodihpaabkplhaaGreatDoor
open Go.RowKit

@[go_sem] theorem store_float {P : Program} {w : World} {a : Addr} {m : Mode} (k : FloatKind) (x : Nat) : Sem.run P (store a (.float k x) m) w = stored P w a (.float k x) m := run_store P w a _ m rfl

/-- The library's tables lie below block b. -/
def TabB (sp : Spots) (b : Nat) (w : World) : Prop := ∃ W0 : World, Tab2 sp W0 ∧ W0.heap.size ≤ b ∧ Below W0.heap.size W0 w
theorem TabB.below {sp : Spots} {b : Nat} {w w' : World} (h : TabB sp b w) (k : Below b w w') : TabB sp b w' := by
  obtain ⟨W0, h1, h2, h3⟩ := h
  exact ⟨W0, h1, h2, h3.trans (k.mono h2)⟩
theorem TabB.tab {sp : Spots} {b : Nat} {w : World} (h : TabB sp b w) : Tab2 sp w := by
  obtain ⟨W0, h1, h2, h3⟩ := h
  exact h1.below h3

/-- The bytes from i to e. -/
def bytesF (S : ByteArray) (i e : Nat) : List UInt8 := (List.range' i (e - i)).map fun k => UInt8.ofNat (ch S k)
theorem bytesF_nil (S : ByteArray) (i : Nat) : bytesF S i i = [] := by simp [bytesF]
theorem bytesF_succ (S : ByteArray) (i e : Nat) (h : i ≤ e) : bytesF S i (e + 1) = bytesF S i e ++ [UInt8.ofNat (ch S e)] := by
  unfold bytesF
  rw [show e + 1 - i = (e - i) + 1 by omega, List.range'_concat, List.map_append]
  simp
  congr 2
  omega
theorem bytesF_length (S : ByteArray) (i e : Nat) : (bytesF S i e).length = e - i := by simp [bytesF]
theorem bytesF_text (S : ByteArray) (i e : Nat) (h : e ≤ S.size) : (⟨(bytesF S i e).toArray⟩ : ByteArray) = S.extract i e := by
  have hd : (bytesF S i e).toArray = (S.extract i e).data := by
    have hs : (S.extract i e).data.size = e - i := by
      show (S.extract i e).size = _
      rw [ByteArray.size_extract]; omega
    apply Array.ext
    · rw [hs]; simp [bytesF_length]
    · intro k h1 h2
      have hk : k < e - i := by rw [← hs]; exact h2
      have h3 : k < (S.extract i e).size := h2
      have e1 : (S.extract i e).data[k] = (S.extract i e)[k]'h3 := rfl
      rw [e1, ByteArray.getElem_extract]
      have h4 : i + k < S.size := by omega
      have e2 := ch_eq S (i + k) h4
      simp only [List.getElem_toArray, bytesF, List.getElem_map, List.getElem_range', Nat.one_mul]
      rw [← e2]
      simp
  show ByteArray.mk _ = S.extract i e
  rw [hd]

/-- Of the old blocks only b and v may have turned. -/
structure Frv (b v : Nat) (w w' : World) : Prop where
  below : Below b w w'
  rest : ∀ k, k ≠ b → k ≠ v → k < w.heap.size → w'.heap[k]? = w.heap[k]?
theorem Frm.frv {b : Nat} {u v : World} (h : Frm b u v) (n : Nat) : Frv b n u v := ⟨h.below, fun k h1 _ h3 => h.rest k h1 h3⟩
theorem Frv.trans {b n : Nat} {u v w : World} (h : Frv b n u v) (k : Frv b n v w) : Frv b n u w := ⟨h.below.trans k.below, fun i h1 h2 hs => (k.rest i h1 h2 (Nat.lt_of_lt_of_le hs h.below.size)).trans (h.rest i h1 h2 hs)⟩
theorem Frv.setCell {b v : Nat} {u w : World} (h : Frv b v u w) (hv : b ≤ v) (i : Nat) (x : Value) : Frv b v u (w.setCell ⟨v, i, none⟩ x) :=
  ⟨h.below.setCell (p := ⟨v, i, none⟩) hv x, fun k h1 h2 h3 => (Below.heap_setCell w ⟨v, i, none⟩ x k h2).trans (h.rest k h1 h2 h3)⟩

/-- The ends of num. -/
def NEnd (b v : Nat) (S : ByteArray) (p e : Nat) (w : World) (en : Ending) (w' : World) : Prop :=
  (∀ x, pfF (S.extract p e) = some x → en = .returned (.int .i64 57375) ∧ LexAt w' b S e .nilIface ∧ w'.cell? ⟨v, 3, none⟩ = some (.float .f64 x) ∧ Frv b v w w') ∧
  (pfF (S.extract p e) = none → en = .returned (.int .i64 0) ∧ (∃ t x, LexAt w' b S e (.iface t x)) ∧ Below b w w')

set_option maxRecDepth 100000 in
set_option maxHeartbeats 4000000 in
theorem num_lex (b v : Nat) (S : ByteArray) (p e : Nat) (sp : Spots) (a : Array Value) (w : World) (hS : Asc S) (he : Span numN S p e) (hlt : p < e) (hT : TabB sp b w)
    (hv : w.heap[v]? = some (.cells a 63 (0, 0))) (ha : a[3]? = some (.float .f64 0)) (hbv : b < v) (h : LexAt w b S p .nilIface) :
    Calls Tryz.prog 35 #[.pointer (some ⟨b, 0, none⟩), .pointer (some ⟨v, 0, none⟩)] w (NEnd b v S p e w) := by
  have hbw := h.lt
  have hvw : v < w.heap.size := heap_lt hv
  have HS := Lib.hid hS
  have HK := Lib.hid he
  have hpe := he.le
  have hes := he.end_le
  have hsz := hS.1
  have hext : (S.extract p e).size = e - p := by rw [ByteArray.size_extract]; omega
  have hnum : Numeric (S.extract p e) := ⟨by omega, fun i hi => by
    rw [hext] at hi
    rw [ch_extract S p e i hes hi]
    exact he.all _ (by omega) (by omega)⟩
  have HPF := Lib.hid (pfF_parses _ hnum (by omega))
  have hnew := bldF_new w
  have hL0 : LexAt (w.alloc (.cells #[.pointer none, .slice none 0 0] 97 (0, 0))) b S p .nilIface := h.heap (Below.heap_alloc w _ b hbw)
  have hF0 : Frm b w (w.alloc (.cells #[.pointer none, .slice none 0 0] 97 (0, 0))) := (Frm.refl b w).alloc (Nat.le_of_lt hbw) _
  clear hS he h hext hnum
  have HN := Lib.hid hnew
  have HL := Lib.hid hL0
  have HF := Lib.hid hF0
  have HV := Lib.hid hv
  have HT := Lib.hid hT
  clear hnew hL0 hF0 hv hT
  go_enter Tryz.func35, Tryz.ntmps35
  go_wp2_with fail
  go_loopg [] (e - p) (fun g wr => ∃ j : Nat, p ≤ j ∧ g + j = e ∧ LexAt wr b S j .nilIface ∧ BldF wr w.heap.size w.heap.size (bytesF S p j) ∧ Frm b w wr)
  case atStart => exact ⟨p, Nat.le_refl _, by omega, HL.out, by rw [bytesF_nil]; exact HN.out, HF.out⟩
  case round =>
    clear HN HL HF
    obtain ⟨j, hj, hjk, hl, hbd, hf⟩ := hrel
    have hpk := peek_any b S j .nilIface wr HS.out (by omega) hl
    have hlt := fun wx => num_any (ch S j) wx (HS.out.lt j)
    have hbl : gk ≠ 0 → numN (ch S j) := fun h0 => HK.out.all j hj (by omega)
    have hnb : gk = 0 → ¬ numN (ch S j) := fun h0 => by
      have : j = e := by omega
      rw [this]
      rcases HK.out.stop with hz | hz
      · rw [ch_end S e (by omega)]
        unfold numN digN
        omega
      · exact hz
    cases gk with
    | zero =>
      have hje : j = e := by omega
      have hd : decide (numN (ch S j)) = false := decide_eq_false (hnb rfl)
      rw [hje] at hl hbd hd hpk hlt
      have HP := Lib.hid hpk
      have HLT := Lib.hid hlt
      have HD := Lib.hid hd
      have HBD := Lib.hid hbd
      have HLX := Lib.hid hl
      have HF := Lib.hid hf
      clear hpk hlt hbl hnb hd hbd hl hf hje hjk hj
      go_wp2_with fail
      refine HP.out.mono ?_
      rintro en w1 ⟨rfl, n, rfl⟩
      go_wp2_with fail
      refine (HLT.out _).mono ?_
      rintro en w1 ⟨rfl, rfl⟩
      rw [HD.out]
      go_wp2_with fail
      have hstr := fun wx (hb : BldF wx w.heap.size w.heap.size (bytesF S p e)) (hs : w.heap.size ≤ wx.heap.size) => Builder_String_any_f w.heap.size w.heap.size (bytesF S p e) wx hb hs
      rw [bytesF_text S p e hes] at hstr
      have HSTR := Lib.hid hstr
      clear hstr
      refine (HSTR.out _ (bldF_only HBD.out ((Only.refl b wr).drewN n) hbw) HF.out.below.size).mono ?_
      rintro en w2 ⟨rfl, -, ho2⟩
      have hl2 : LexAt w2 b S e .nilIface := (HLX.out.drewN n).below ho2 hbw
      have hf2 : Frm b w w2 := (HF.out.drewN n).above ho2 (Nat.le_refl _) (Nat.le_of_lt hbw)
      have HLX2 := Lib.hid hl2
      have HF2 := Lib.hid hf2
      have HT2 := Lib.hid (HT.out.below hf2.below)
      clear ho2 hl2 hf2 HBD HLX HF HSTR HP HLT
      cases hpf : pfF (S.extract p e) with
      | some x =>
        have hps := HPF.out.1
        rw [hpf] at hps
        have HPS := Lib.hid (hps sp w2 HT2.out.tab)
        have hx := HPF.out.2 x hpf
        have HX := Lib.hid hx
        have HE := Lib.hid hpf
        clear hps hpf hx HPF
        go_wp2_with fail
        refine HPS.out.mono ?_
        rintro en w3 ⟨rfl, ho3⟩
        have hl3 := HLX2.out.below ho3 HLX2.out.lt
        have hf3 := HF2.out.above ho3 HF2.out.below.size (Nat.le_of_lt HLX2.out.lt)
        have hv3 : w3.heap[v]? = _ := (hf3.rest v (by omega) hvw).trans HV.out
        have fz : w3.frozen? ⟨v, 3, none⟩ = false := Lib.frozen_of_heap hv3 3
        have hc3 : w3.cell? ⟨v, 3, none⟩ = some (.float .f64 0) := by
          rw [Lib.cell_of_heap hv3]
          exact ha
        have HL3 := Lib.hid hl3
        have HF3 := Lib.hid hf3
        have HV3 := Lib.hid hv3
        clear hl3 hf3 hv3 ho3
        go_wp2
        go_ret
        have hset : (w3.setCell ⟨v, 3, none⟩ (.float .f64 x)).cell? ⟨v, 3, none⟩ = some (.float .f64 x) := by
          have := HV3.out
          have ha3 : 3 < a.size := by
            rcases Nat.lt_or_ge 3 a.size with h1 | h1
            · exact h1
            · rw [Array.getElem?_eq_none h1] at ha
              cases ha
          simp [World.cell?, World.setCell, Array.getElem?_modify, this, ha3]
        refine ⟨fun y hy => ?_, fun hy => ?_⟩
        · rw [HE.out] at hy
          cases hy
          exact ⟨rfl, HL3.out.heap (Below.heap_setCell _ _ _ _ (by simp; omega)), hset, (HF3.out.frv v).setCell (Nat.le_of_lt hbv) 3 _⟩
        · rw [HE.out] at hy
          cases hy
      | none =>
        have hps := HPF.out.1
        rw [hpf] at hps
        obtain ⟨x, t, hps⟩ := hps
        have HPS := Lib.hid (hps sp w2 HT2.out.tab)
        have HE := Lib.hid hpf
        clear hps hpf HPF
        go_wp2_with fail
        refine HPS.out.mono ?_
        rintro en w3 ⟨pt, rfl, ho3⟩
        have hl3 := HLX2.out.below ho3 HLX2.out.lt
        have hf3 := HF2.out.above ho3 HF2.out.below.size (Nat.le_of_lt HLX2.out.lt)
        have hse := fun t ht => setLexError_any b S e t w3 (Nat.le_trans hes hsz) ht hl3
        have HSE := Lib.hid hse
        clear hl3 hse ho3
        go_wp2_with fail
        refine (HSE.out _ (by decide)).mono ?_
        rintro en wv ⟨rfl, hlv, hov⟩
        go_wp2_with fail
        go_ret
        refine ⟨fun y hy => ?_, fun hy => ⟨rfl, hlv, hf3.below.trans hov⟩⟩
        rw [HE.out] at hy
        cases hy
    | succ g =>
      have hd : decide (numN (ch S j)) = true := decide_eq_true (hbl (by omega))
      have hjs : j < S.size := by omega
      have hnx := fun (wx : World) (hx : LexAt wx b S j .nilIface) => next_any b S j .nilIface wx HS.out hjs hx
      have hg128 := HS.out.lt j
      have hwr := fun wx (hb : BldF wx w.heap.size w.heap.size (bytesF S p j)) (hs : w.heap.size ≤ wx.heap.size) => writeRuneF_any w.heap.size w.heap.size (bytesF S p j) (ch S j) wx hg128 hb (by rw [bytesF_length]; omega) hs
      have hcap : bytesF S p j ++ [UInt8.ofNat (ch S j)] = bytesF S p (j + 1) := (bytesF_succ S p j hj).symm
      rw [hcap] at hwr
      clear hcap hg128
      have HP := Lib.hid hpk
      have HLT := Lib.hid hlt
      have HD := Lib.hid hd
      have HNX := Lib.hid hnx
      have HWR := Lib.hid hwr
      clear hpk hlt hbl hnb hd hnx hwr
      go_wp2_with fail
      refine HP.out.mono ?_
      rintro en w1 ⟨rfl, n, rfl⟩
      go_wp2_with fail
      refine (HLT.out _).mono ?_
      rintro en w1 ⟨rfl, rfl⟩
      rw [HD.out]
      go_wp2_with fail
      refine (HNX.out _ (hl.drewN n)).mono ?_
      rintro en w2 ⟨rfl, hl2, ho2⟩
      go_wp2_with fail
      have hf2 := (hf.drewN n).only ho2
      refine (HWR.out _ (bldF_only (bldF_only hbd ((Only.refl b wr).drewN n) hbw) ho2 hbw) hf2.below.size).mono ?_
      rintro en w4 ⟨rfl, hb4, ho4⟩
      go_wp2_with fail
      go_roundg g
      case measure => omega
      case rel => exact ⟨j + 1, by omega, by omega, hl2.below ho4 hbw, hb4, hf2.above ho4 (Nat.le_refl _) (Nat.le_of_lt hbw)⟩
end Go.Proofs.YtodihpaabkplhaaGreatDoor

namespace Go.Proofs.YtodihpaabkplhaaGreatDoor
open Go.RowKit

theorem Frm.frvT {b n : Nat} {u v w : World} (h : Frm b u v) (k : Frv b n v w) : Frv b n u w := (h.frv n).trans k

/-- One token: the end, a token and what follows, or an error. -/
def LEnd (b v : Nat) (S : ByteArray) (i : Nat) (r : Option (List Wd)) (w : World) (en : Ending) (w' : World) : Prop :=
  (r = some [] ∧ en = .returned (.int .i64 0) ∧ LexAt w' b S S.size .nilIface ∧ Frv b v w w') ∨
  (∃ (d : Wd) (r' : Option (List Wd)) (j : Nat), r = r'.map (fun l => d :: l) ∧ Run pfF S j r' ∧ i < j ∧ j ≤ S.size ∧ en = .returned (.int .i64 (codeW d)) ∧ codeW d ≠ 0 ∧ (codeW d = 57375 ↔ d.sign = 35) ∧
    (d.sign = 35 → w'.cell? ⟨v, 3, none⟩ = some (.float .f64 d.num)) ∧ LexAt w' b S j .nilIface ∧ Frv b v w w') ∨
  (r = none ∧ en = .returned (.int .i64 0) ∧ (∃ t x j, LexAt w' b S j (.iface t x)) ∧ Below b w w')

theorem named_code {l : List UInt8} {d : Wd} (h : named l = some d) : codeW d ≠ 0 ∧ codeW d ≠ 57375 ∧ d.sign = 0 := by
  unfold named at h
  split at h
  · cases h
    decide
  · rw [Option.map_eq_some_iff] at h
    obtain ⟨p, hp, rfl⟩ := h
    have h1 := List.mem_of_find?_eq_some hp
    have h2 : ∀ p ∈ pairsN, codeW ⟨0, p.1, p.2, false, 0⟩ ≠ 0 ∧ codeW ⟨0, p.1, p.2, false, 0⟩ ≠ 57375 := by decide +kernel
    exact ⟨(h2 p h1).1, (h2 p h1).2, rfl⟩

set_option maxRecDepth 100000 in
set_option maxHeartbeats 4000000 in
theorem lex_any (b v : Nat) (S : ByteArray) (i : Nat) (r : Option (List Wd)) (sp : Spots) (a : Array Value) (w : World) (hS : Asc S) (hi : i ≤ S.size) (hr : Run pfF S i r) (hT : TabB sp b w)
    (hv : w.heap[v]? = some (.cells a 63 (0, 0))) (ha : a[3]? = some (.float .f64 0)) (hbv : b < v) (h : LexAt w b S i .nilIface) :
    Calls Tryz.prog 22 #[.pointer (some ⟨b, 0, none⟩), .pointer (some ⟨v, 0, none⟩)] w (LEnd b v S i r w) := by
  obtain ⟨k, hk⟩ := span_ex blankN S i hi
  have hbw := h.lt
  have hvw : v < w.heap.size := heap_lt hv
  have hik := hk.le
  have hks := hk.end_le
  have hsz := hS.1
  have hrk := hr.skip hk
  have hnb : k = S.size ∨ ¬ blankN (ch S k) := hk.stop
  have htr := trim_lex b S i k .nilIface w hS hk h
  have HS := Lib.hid hS
  have HR := Lib.hid hrk
  have HV := Lib.hid hv
  have HT := Lib.hid hT
  have HTR := Lib.hid htr
  have HNB := Lib.hid hnb
  clear hS hr hrk hv hT h htr hk hnb
  go_enter Tryz.func22, Tryz.ntmps22
  go_wp2_with fail
  refine HTR.out.mono ?_
  rintro en w1 ⟨rfl, hl1, ho1⟩
  obtain ⟨ln, ls, lp, a1, a2, a3, a4, r', y, h1, h2, h3, h4⟩ := hl1
  have hL : LexH w1 b S k ln ls lp a1 a2 a3 a4 r' y .nilIface := h4
  have c1 : w1.cell? ⟨b, 1, none⟩ = some (.int .i64 k) := hL.c 1
  have c2 : w1.cell? ⟨b, 2, none⟩ = some (.int .i64 ln) := hL.c 2
  have c3 : w1.cell? ⟨b, 3, none⟩ = some (.int .i64 ls) := hL.c 3
  have c4 : w1.cell? ⟨b, 4, none⟩ = some (.int .i64 lp) := hL.c 4
  have c5 : w1.cell? ⟨b, 5, none⟩ = some (.int .i64 a1) := hL.c 5
  have c6 : w1.cell? ⟨b, 6, none⟩ = some (.int .i64 a2) := hL.c 6
  have c7 : w1.cell? ⟨b, 7, none⟩ = some (.int .i64 a3) := hL.c 7
  have c8 : w1.cell? ⟨b, 8, none⟩ = some (.int .i64 a4) := hL.c 8
  have f5 : w1.frozen? ⟨b, 5, none⟩ = false := Lib.frozen_of_heap hL 5
  have f6 : w1.frozen? ⟨b, 6, none⟩ = false := Lib.frozen_of_heap hL 6
  have f7 : w1.frozen? ⟨b, 7, none⟩ = false := Lib.frozen_of_heap hL 7
  have f8 : w1.frozen? ⟨b, 8, none⟩ = false := Lib.frozen_of_heap hL 8
  have HL := Lib.hid hL
  clear hL h4
  go_wp2_with fail
  have hl2 : LexAt ((((w1.setCell ⟨b, 5, none⟩ (.int .i64 k)).setCell ⟨b, 6, none⟩ (.int .i64 ln)).setCell ⟨b, 7, none⟩ (.int .i64 ls)).setCell ⟨b, 8, none⟩ (.int .i64 lp)) b S k .nilIface := by
    refine ⟨ln, ls, lp, k, ln, ls, lp, r', y, h1, h2, by omega, ?_⟩
    have := HL.out
    unfold LexH lexC at this
    unfold lexC
    simp [World.setCell, Array.getElem?_modify, this]
  have ho2 : Only b w ((((w1.setCell ⟨b, 5, none⟩ (.int .i64 k)).setCell ⟨b, 6, none⟩ (.int .i64 ln)).setCell ⟨b, 7, none⟩ (.int .i64 ls)).setCell ⟨b, 8, none⟩ (.int .i64 lp)) := (((ho1.setCell 5 _).setCell 6 _).setCell 7 _).setCell 8 _
  clear c1 c2 c3 c4 c5 c6 c7 c8 f5 f6 f7 f8 HL ho1 h1 h2 h3
  obtain ⟨w2, hw2⟩ : ∃ w2, ((((w1.setCell ⟨b, 5, none⟩ (.int .i64 k)).setCell ⟨b, 6, none⟩ (.int .i64 ln)).setCell ⟨b, 7, none⟩ (.int .i64 ls)).setCell ⟨b, 8, none⟩ (.int .i64 lp)) = w2 := ⟨_, rfl⟩
  rw [hw2] at hl2 ho2 ⊢
  clear hw2 HTR
  have hpk := peek_any b S k .nilIface w2 HS.out hks hl2
  have HP := Lib.hid hpk
  have HL := Lib.hid hl2
  have HO := Lib.hid ho2
  clear hpk hl2 ho2
  go_wp2_with fail
  refine HP.out.mono ?_
  rintro en w3 ⟨rfl, n, rfl⟩
  have hlt := fun wx => letter_any (ch S k) wx (HS.out.lt k)
  have hft := fun wx (h : ¬ letN (ch S k)) => first_any (ch S k) wx (HS.out.lt k) h
  have hnx := fun wx (hx : LexAt wx b S k .nilIface) (h : k < S.size) => next_any b S k .nilIface wx HS.out h hx
  have hend := ch_end S k
  have hpos := fun h : k < S.size => (HS.out.2 k h).1
  obtain ⟨w3, hw3⟩ : ∃ w3, w2.drewN n = w3 := ⟨_, rfl⟩
  have HL3 := Lib.hid (HL.out.drewN n)
  have HO3 := Lib.hid (HO.out.drewN n)
  rw [hw3] at HL3 HO3 ⊢
  clear HP HL HO hw3
  have HF3 := Lib.hid HO3.out.frm
  have hr := HR.out
  obtain ⟨c, hc⟩ : ∃ c, ch S k = c := ⟨_, rfl⟩
  have HLT := Lib.hid hlt
  have HFT := Lib.hid hft
  have HNX := Lib.hid hnx
  clear hlt hft hnx
  rw [hc] at HLT HFT HNX hend hpos HNB ⊢
  have HPOS := Lib.hid hpos
  clear hpos
  rcases Nat.lt_or_ge k S.size with hkS | hkS
  rotate_left
  · have hc0 := hend hkS
    have hkE : k = S.size := by omega
    have hcb : ((c : Int) == 0) = true := by rw [hc0]; rfl
    have HH := Lib.hid hr
    have HE := Lib.hid hkE
    clear hc hc0 hr hkE hend hkS
    go_wp2_with fail
    go_ret
    refine Or.inl ⟨?_, rfl, ?_, HF3.out.frv v⟩
    · have hr := HH.out
      have e := HE.out
      cases hr with
      | done _ => rfl
      | blank h _ _ => omega
      | sign h _ _ => omega
      | empty h _ _ _ _ => omega
      | name h _ _ _ _ _ _ => omega
      | nameBad h _ _ _ _ _ => omega
      | num h _ _ _ _ => omega
      | numBad h _ _ _ => omega
      | bad h _ _ _ _ => omega
    · rw [← HE.out]; exact HL3.out
  have hnb : ¬ blankN c := by
    rcases HNB.out with h | h
    · omega
    · exact h
  have hc1 := HPOS.out hkS
  have hc0b : ((c : Int) == 0) = false := by rw [beq_eq_false_iff_ne]; omega
  by_cases hsg : signN c
  · have hch := hc
    have HC := Lib.hid hc
    have HH := Lib.hid hr
    clear hc hch hr
    rcases hsg with rfl | rfl | rfl
    all_goals (
      go_wp2_with fail
      refine (HNX.out _ HL3.out hkS).mono ?_
      rintro en w4 ⟨rfl, hl4, ho4⟩
      go_wp2_with fail
      go_ret
      refine Or.inr (Or.inl ?_)
      have hr := HH.out
      have hcc := HC.out
      clear HH
      cases hr with
      | done e => omega
      | blank _ h _ => rw [hcc] at h; exact absurd h hnb
      | sign h1 h2 h3 =>
        rw [hcc] at h2 ⊢
        exact ⟨_, _, k + 1, rfl, h3, by omega, by omega, rfl, by decide, by decide, fun h => absurd h (by decide), hl4, (HF3.out.only ho4).frv v⟩
      | empty _ h _ _ _ => rw [hcc] at h; exact absurd h (by decide)
      | name _ h _ _ _ _ _ => rw [hcc] at h; exact absurd h (by decide)
      | nameBad _ h _ _ _ _ => rw [hcc] at h; exact absurd h (by decide)
      | num _ h _ _ _ => rw [hcc] at h; exact absurd h (by unfold fstN digN; omega)
      | numBad _ h _ _ => rw [hcc] at h; exact absurd h (by unfold fstN digN; omega)
      | bad _ _ h _ _ => rw [hcc] at h; exact absurd (by unfold signN; omega) h)
  have hb40 : ((c : Int) == 40) = false := by rw [beq_eq_false_iff_ne]; unfold signN at hsg; omega
  have hb41 : ((c : Int) == 41) = false := by rw [beq_eq_false_iff_ne]; unfold signN at hsg; omega
  have hb44 : ((c : Int) == 44) = false := by rw [beq_eq_false_iff_ne]; unfold signN at hsg; omega
  by_cases hlet : letN c
  · have hd : decide (letN c) = true := decide_eq_true hlet
    obtain ⟨e, he⟩ := span_ex letN S k hks
    have hke : k < e := he.lt hkS (by rw [hc]; exact hlet)
    have hee := he.end_le
    have hkw := keyword_any b S k e w3 HS.out he HL3.out
    have HKW := Lib.hid hkw
    have HD := Lib.hid hd
    have HC := Lib.hid hc
    have HH := Lib.hid hr
    have HE := Lib.hid he
    have HN := Lib.hid (And.intro hnb (And.intro hsg hlet))
    clear hkw hd hc hr he hnb hsg hlet
    go_wp2_with fail
    refine (HLT.out _).mono ?_
    rintro en w4 ⟨rfl, rfl⟩
    rw [HD.out]
    go_wp2_with fail
    refine HKW.out.mono ?_
    rintro en w5 hK
    have hr := HH.out
    have hcc := HC.out
    obtain ⟨hnb, hsg, hlet⟩ := HN.out
    have HHK := Lib.hid hK
    clear HH hK HKW HLT HFT HNX HL3
    cases hr with
    | done e => omega
    | blank _ h _ => rw [hcc] at h; exact absurd h hnb
    | sign _ h _ => rw [hcc] at h; exact absurd h hsg
    | @empty _ e' r0 _ h1 h2 h3 h4 =>
      have hee' := HE.out.uniq h2
      subst hee'
      obtain ⟨rfl, hl5, hf5⟩ := HHK.out.1 h3
      have hfin := HF3.out.trans hf5
      clear HHK HE HF3
      go_wp2_with fail
      go_ret
      exact Or.inr (Or.inl ⟨_, _, e, rfl, h4, by omega, hee, rfl, by decide, by decide, fun h => absurd h (by decide), hl5, hfin.frv v⟩)
    | @name _ e' k' d r0 _ h1 h2 h3 h4 h5 h6 =>
      have hee' := HE.out.uniq h2
      subst hee'
      obtain ⟨rfl, hl5, hf5⟩ := (HHK.out.2 h3 k' h4).1 d h5
      have hfin := HF3.out.trans hf5
      have hcd := named_code h5
      have h7 := mEnd_ge S k'
      have h8 := mEnd_le S k' h4.end_le
      have h9 := h4.le
      have HCD := Lib.hid hcd
      clear HHK HE HF3 hcd
      go_wp2_with fail
      go_ret
      have hcd := HCD.out
      exact Or.inr (Or.inl ⟨d, _, _, rfl, h6, by omega, h8, rfl, hcd.1, ⟨fun h => absurd h hcd.2.1, fun h => by rw [hcd.2.2] at h; exact absurd h (by decide)⟩, fun h => by rw [hcd.2.2] at h; exact absurd h (by decide), hl5, hfin.frv v⟩)
    | @nameBad _ e' k' _ h1 h2 h3 h4 h5 =>
      have hee' := HE.out.uniq h2
      subst hee'
      obtain ⟨rfl, ⟨t, x, hl5⟩, hf5⟩ := (HHK.out.2 h3 k' h4).2 h5
      have hfin := HF3.out.below.trans hf5
      clear HHK HE HF3
      go_wp2_with fail
      go_ret
      exact Or.inr (Or.inr ⟨rfl, rfl, ⟨t, x, _, hl5⟩, hfin⟩)
    | num _ h _ _ _ => rw [hcc] at h; exact absurd h (by unfold fstN digN; unfold letN at hlet; omega)
    | numBad _ h _ _ => rw [hcc] at h; exact absurd h (by unfold fstN digN; unfold letN at hlet; omega)
    | bad _ _ _ h _ => rw [hcc] at h; exact absurd hlet h
  · have hdl : decide (letN c) = false := decide_eq_false hlet
    have HD := Lib.hid hdl
    have HFT2 := Lib.hid (fun wx => HFT.out wx hlet)
    by_cases hfst : fstN c
    · have hd : decide (fstN c) = true := decide_eq_true hfst
      obtain ⟨e, he⟩ := span_ex numN S k hks
      have hke : k < e := he.lt hkS (by rw [hc]; exact fst_num hfst)
      have hee := he.end_le
      have hv3 := (HF3.out.rest v (by omega) hvw).trans HV.out
      have hkw := num_lex b v S k e sp a w3 HS.out he hke (HT.out.below HF3.out.below) hv3 ha hbv HL3.out
      have HKW := Lib.hid hkw
      have HD2 := Lib.hid hd
      have HC := Lib.hid hc
      have HH := Lib.hid hr
      have HE := Lib.hid he
      have HN := Lib.hid (And.intro hnb (And.intro hsg (And.intro hlet hfst)))
      clear hkw hd hc hr he hnb hsg hlet hdl hfst hv3
      go_wp2_with fail
      refine (HLT.out _).mono ?_
      rintro en w4 ⟨rfl, rfl⟩
      rw [HD.out]
      go_wp2_with fail
      refine (HFT2.out _).mono ?_
      rintro en w4 ⟨rfl, rfl⟩
      rw [HD2.out]
      go_wp2_with fail
      refine HKW.out.mono ?_
      rintro en w5 hK
      have hr := HH.out
      have hcc := HC.out
      obtain ⟨hnb, hsg, hlet, hfst⟩ := HN.out
      have HHK := Lib.hid hK
      clear HH hK HKW HLT HFT HFT2 HNX HL3
      cases hr with
      | done e => omega
      | blank _ h _ => rw [hcc] at h; exact absurd h hnb
      | sign _ h _ => rw [hcc] at h; exact absurd h hsg
      | empty _ h _ _ _ => rw [hcc] at h; exact absurd h hlet
      | name _ h _ _ _ _ _ => rw [hcc] at h; exact absurd h hlet
      | nameBad _ h _ _ _ _ => rw [hcc] at h; exact absurd h hlet
      | @num _ e' x r0 _ h1 h2 h3 h4 =>
        have hee' := HE.out.uniq h2
        subst hee'
        obtain ⟨rfl, hl5, hc5, hf5⟩ := HHK.out.1 x h3
        have hfin := HF3.out.frvT hf5
        have HX := Lib.hid (And.intro hc5 hfin)
        clear HHK HE HF3 hc5 hfin
        go_wp2_with fail
        go_ret
        exact Or.inr (Or.inl ⟨_, _, e, rfl, h4, by omega, hee, rfl, by simp [codeW], by simp [codeW], fun _ => HX.out.1, hl5, HX.out.2⟩)
      | @numBad _ e' _ h1 h2 h3 =>
        have hee' := HE.out.uniq h2
        subst hee'
        obtain ⟨rfl, ⟨t, x, hl5⟩, hf5⟩ := HHK.out.2 h3
        have hfin := HF3.out.below.trans hf5
        clear HHK HE HF3
        go_wp2_with fail
        go_ret
        exact Or.inr (Or.inr ⟨rfl, rfl, ⟨t, x, _, hl5⟩, hfin⟩)
      | bad _ _ _ _ h => rw [hcc] at h; exact absurd hfst h
    · have hd : decide (fstN c) = false := decide_eq_false hfst
      have HD2 := Lib.hid hd
      have hse := fun t wx ht hx => setLexError_any b S (k + 1) t wx (by omega) ht hx
      have HSE := Lib.hid hse
      have hrn : r = none := by
        cases hr with
        | done e => omega
        | blank _ h _ => rw [hc] at h; exact absurd h hnb
        | sign _ h _ => rw [hc] at h; exact absurd h hsg
        | empty _ h _ _ _ => rw [hc] at h; exact absurd h hlet
        | name _ h _ _ _ _ _ => rw [hc] at h; exact absurd h hlet
        | nameBad _ _ _ _ _ _ => rfl
        | num _ h _ _ _ => rw [hc] at h; exact absurd h hfst
        | numBad _ _ _ _ => rfl
        | bad _ _ _ _ _ => rfl
      have HRN := Lib.hid hrn
      clear hd hc hr hse hnb hsg hlet hdl hfst hrn
      go_wp2_with fail
      refine (HLT.out _).mono ?_
      rintro en w4 ⟨rfl, rfl⟩
      rw [HD.out]
      go_wp2_with fail
      refine (HFT2.out _).mono ?_
      rintro en w4 ⟨rfl, rfl⟩
      rw [HD2.out]
      go_wp2_with fail
      refine (HNX.out _ HL3.out hkS).mono ?_
      rintro en w5 ⟨rfl, hl5, ho5⟩
      go_wp2_with fail
      refine (HSE.out _ _ (by decide) hl5).mono ?_
      rintro en w6 ⟨rfl, ⟨t, x, hl6⟩, ho6⟩
      go_wp2_with fail
      go_ret
      exact Or.inr (Or.inr ⟨HRN.out, rfl, ⟨t, x, _, hl6⟩, (HF3.out.only ho5).below.trans ho6⟩)
end Go.Proofs.YtodihpaabkplhaaGreatDoor
