/- newWKTLex. DoorTokens. impl.Tokens. -/
import Derived.Test.YtodihpaabkplhaaGreatDoorLxh
import Derived.Laws.Rows
import Derived.Test.YtodihpaabkplhaaGreatDoorApp
import Derived.OwnWalk
import Derived.Tactics
import Derived.Tactics2
import Derived.Defers
import Derived.Recover
import Derived.Laws.Pointers
import Derived.RegionTactic
import Derived.BigRegion

namespace Go.Proofs.YtodihpaabkplhaaGreatDoor
open Go.RowKit

set_option maxRecDepth 100000 in
set_option maxHeartbeats 1000000 in
theorem makeStack_any (w : World) :
    Calls Tryz.prog 28 #[] w fun en w' => (∃ x : Nat, en = .returned (.agg #[.slice (some ⟨x, 0, none⟩) 1 1])) ∧ Below w.heap.size w w' := by
  have hg : ((w.alloc (Obj.cells #[Value.slice (some ⟨w.heap.size + 1, 0, none⟩) 1 1] 70)).alloc
      (Obj.cells #[Value.int IntKind.i64 0, Value.bool true, Value.bool false] 94)).heap[w.heap.size]? = some (.cells #[Value.slice (some ⟨w.heap.size + 1, 0, none⟩) 1 1] 70 (0, 0)) := by
    exact (Below.heap_alloc _ _ _ (by show _ < (w.heap.push _).size; simp)).trans (heap_alloc_new w _)
  have hB : Below w.heap.size w ((w.alloc (Obj.cells #[Value.slice (some ⟨w.heap.size + 1, 0, none⟩) 1 1] 70)).alloc
      (Obj.cells #[Value.int IntKind.i64 0, Value.bool true, Value.bool false] 94)) := ((Below.refl _ _).alloc (Nat.le_refl _) _).alloc (by show w.heap.size ≤ (w.heap.push _).size; simp) _
  go_enter Tryz.func28, Tryz.ntmps28
  go_wp2
  refine bodyPost_ret (results_cell_row rfl _ _ w.heap.size _ _ _ _ rfl hg Tryz.underlying70 rfl (by rfl)) rfl ?_
  exact ⟨⟨_, rfl⟩, hB⟩

set_option maxRecDepth 100000 in
set_option maxHeartbeats 1000000 in
theorem newLex_any (S : ByteArray) (w : World) :
    Calls Tryz.prog 21 #[.string S] w fun en w' => ∃ b, en = .returned (.pointer (some ⟨b, 0, none⟩)) ∧ w.heap.size ≤ b ∧ LexAt w' b S 0 .nilIface ∧ Below w.heap.size w w' := by
  have hm := makeStack_any w
  have HM := Lib.hid hm
  clear hm
  go_enter Tryz.func21, Tryz.ntmps21
  go_wp2_with fail
  refine HM.out.mono ?_
  rintro en w1 ⟨⟨x, rfl⟩, hB⟩
  go_wp2_with fail
  go_ret
  refine ⟨w1.heap.size, rfl, hB.size, ⟨0, 0, 0, 0, 0, 0, 0, _, _, by omega, by omega, by omega, heap_alloc_new w1 _⟩, hB.alloc hB.size _⟩
end Go.Proofs.YtodihpaabkplhaaGreatDoor

namespace Go.Proofs.YtodihpaabkplhaaGreatDoor
open Go.RowKit

theorem own_heap {w w' : World} {B : Nat} {el : TypeId} {sz : Nat} {v : Value} {n : Nat} {xs : List Value} (h : w.ownsRow B el sz v n xs) (hk : ∀ k, v.ownBlock = some k → w'.heap[k]? = w.heap[k]?) : w'.ownsRow B el sz v n xs := by
  refine ⟨h.1, ?_⟩
  rcases h.2 with hn | ⟨g, cap, cur, e, hb, hgg, rest⟩
  · exact Or.inl hn
  · exact Or.inr ⟨g, cap, cur, e, hb, (hk g (by rw [e]; rfl)).trans hgg, rest⟩
theorem own_mono {w : World} {B B' : Nat} {el : TypeId} {sz : Nat} {v : Value} {n : Nat} {xs : List Value} (h : w.ownsRow B el sz v n xs) (hb : B' ≤ B) : w.ownsRow B' el sz v n xs := by
  refine ⟨h.1, ?_⟩
  rcases h.2 with hn | ⟨g, cap, cur, e, hb', rest⟩
  · exact Or.inl hn
  · exact Or.inr ⟨g, cap, cur, e, Nat.le_trans hb hb', rest⟩
theorem own_sl {w : World} {B : Nat} {el : TypeId} {sz : Nat} {v : Value} {n : Nat} {xs : List Value} (h : w.ownsRow B el sz v n xs) : ∃ ao m cap, v = .slice ao m cap := by
  rcases h.2 with ⟨hv, _⟩ | ⟨g, cap, cur, hv, _⟩
  · exact ⟨_, _, _, hv⟩
  · exact ⟨_, _, _, hv⟩

theorem push_one {ops : Array Oper} {rest : List Oper} {o : Oper} {a : Act} {Q : Exit → Act → World → Prop} (s x : Operand) (hgd : o.guard = none) (el sl : TypeId) (sz bytes : Nat) (z : Value)
    (ho : o.op = .call { callee := .builtin .append, args := #[s, x], argTypes := #[sl, sl] })
    (hinfo : (Tryz.prog.info? el).map (fun i => (i.zero, i.size, i.bytes)) = some (some z, sz, bytes)) (hu : Tryz.prog.underlying sl = some (.slice el)) (hzs : z.cells.size = sz) (hsz : 0 < sz) (hby : bytes ≤ 1000)
    (B : Nat) (v : Value) (n : Nat) (xs : List Value) (W : World) (news : Array Value) (hn : news.size = sz) (hone : ∀ u ∈ news.toList, u.oneCell' = true) (hs : a.eval s = v) (hx : a.eval x = .slice (some ⟨W.heap.size, 0, none⟩) 1 1)
    (hown : W.ownsRow B el sz v n xs) (hl : n ≤ 100000) (hB : B ≤ W.heap.size)
    (h : ∀ v' w', w'.ownsRow B el sz v' (n + 1) (xs ++ news.toList) → Grew B W v w' v' → wpList Tryz.prog ops Q rest (a.put o.dst v') w') :
    wpList Tryz.prog ops Q (o :: rest) a (W.alloc (.cells news el)) := by
  obtain ⟨i0, hi, hz0, hz1, hz2⟩ := info_parts hinfo
  have hh : (W.alloc (.cells news el)).heap[W.heap.size]? = some (.cells news el (0, 0)) := heap_new W _
  refine wpList_append_own_at (P := Tryz.prog) (w := W.alloc (.cells news el)) hgd s x sl ho B el i0 z sz bytes hu hi hz0 hz1 hz2 hzs hsz v n xs hs (hown.alloc _) ⟨W.heap.size, 0, none⟩ 1 1 news.toList hx (by simp [hn]) ?_ hone ?_ ?_ ?_ ?_
  · intro j u hj
    rw [plain_add, Nat.zero_add, Lib.cell_of_heap hh]
    simpa using hj
  · unfold maxLen; omega
  · have : (n + 1) * bytes ≤ 100001 * 1000 := Nat.mul_le_mul (by omega) hby
    omega
  · simp; omega
  · intro v' w' h1 h2 h3 h4
    refine h v' w' h1 ⟨?_, ?_⟩
    · exact ((Below.refl B W).alloc hB _).grown h2 (by simp; omega) (fun k hk => (hown.lt k hk).1)
    · intro b hb hne
      have e : (W.alloc (.cells news el)).heap[b]? = W.heap[b]? := Below.heap_alloc W _ b hb
      refine ⟨(h2.block b (by simp; omega) (fun e => hne e.symm)).trans e, ?_⟩
      rcases h4 with h4 | h4
      · rw [h4]; exact hne
      · rw [h4]
        simp
        omega

theorem info_int : (Tryz.prog.info? 3).map (fun i => (i.zero, i.size, i.bytes)) = some (some (.int .i64 0), 1, 8) := by kernel_rfl
theorem info_flt : (Tryz.prog.info? 30).map (fun i => (i.zero, i.size, i.bytes)) = some (some (.float .f64 0), 1, 8) := by kernel_rfl

def kindsL (l : List Wd) : List Value := l.map fun d => .int .i64 (codeW d)
def numsL (l : List Wd) : List Value := (l.filter fun d => d.sign == 35).map fun d => .float .f64 d.num
theorem kindsL_app (l : List Wd) (d : Wd) : kindsL (l ++ [d]) = kindsL l ++ [.int .i64 (codeW d)] := by simp [kindsL]
theorem numsL_app (l : List Wd) (d : Wd) (h : d.sign = 35) : numsL (l ++ [d]) = numsL l ++ [.float .f64 d.num] := by simp [numsL, h]
theorem numsL_app0 (l : List Wd) (d : Wd) (h : d.sign ≠ 35) : numsL (l ++ [d]) = numsL l := by simp [numsL, h]
theorem numsL_len (l : List Wd) : (numsL l).length ≤ l.length := by simp [numsL]; exact List.length_filter_le _ _

/-- Both rows, apart. -/
structure Rows2 (w : World) (B : Nat) (kv nv : Value) (l : List Wd) : Prop where
  k : w.ownsRow B 3 1 kv l.length (kindsL l)
  n : w.ownsRow B 30 1 nv (numsL l).length (numsL l)
  ne : ∀ c, kv.ownBlock = some c → nv.ownBlock ≠ some c

def DEnd (B : Nat) (r : Option (List Wd)) (w : World) (en : Ending) (w' : World) : Prop :=
  (∀ l, r = some l → ∃ kv nv, en = .returned (.tuple #[kv, nv, .nilIface]) ∧ Rows2 w' B kv nv l) ∧
  (r = none → ∃ a1 n1 c1 a2 n2 c2 t x, en = .returned (.tuple #[.slice a1 n1 c1, .slice a2 n2 c2, .iface t x])) ∧ Below B w w'

set_option maxRecDepth 100000 in
set_option maxHeartbeats 4000000 in
theorem doorTokens_any (S : ByteArray) (r : Option (List Wd)) (sp : Spots) (w : World) (hS : Asc S) (hr : Run pfF S 0 r) (hT : Tab2 sp w) :
    Calls Tryz.prog 16 #[.string S] w (DEnd w.heap.size r w) := by
  have hnl := newLex_any S w
  have hsz := hS.1
  have HS := Lib.hid hS
  have HR := Lib.hid hr
  have HT := Lib.hid hT
  have HNL := Lib.hid hnl
  clear hS hr hT hnl
  go_enter Tryz.func16, Tryz.ntmps16
  go_wp2_with fail
  refine HNL.out.mono ?_
  rintro en w1 ⟨b, rfl, hb0, hl1, hB1⟩
  have HTB := Lib.hid (show TabB sp b w1 from ⟨w, HT.out, hb0, hB1⟩)
  have HL1 := Lib.hid hl1
  have HB1 := Lib.hid hB1
  clear hl1 hB1 HNL HT
  go_wp2_with fail
  go_loopg [2, 3] S.size (fun g kv nv wr => ∃ (j : Nat) (l : List Wd) (r' : Option (List Wd)), j ≤ S.size ∧ g = S.size - j ∧ l.length ≤ j ∧ Run pfF S j r' ∧ r = r'.map (fun x => l ++ x) ∧ LexAt wr b S j .nilIface ∧ Rows2 wr (b + 1) kv nv l ∧ Below b w1 wr)
  case atStart =>
    exact ⟨0, [], r, by omega, by omega, by simp, HR.out, by cases r <;> simp, HL1.out, ⟨World.ownsRow_nil _ _ _ _, World.ownsRow_nil _ _ _ _, by simp [Value.ownBlock]⟩, Below.refl _ _⟩
  case round =>
    obtain ⟨j, l, r', hj, hg, hlj, hrr, hre, hl, hrow, hbel⟩ := hrel
    have HL := Lib.hid hl
    have HRW := Lib.hid hrow
    have HRR := Lib.hid hrr
    have HRE := Lib.hid hre
    have HBL := Lib.hid hbel
    clear hl hrow hrr hre hbel
    have hbw := HL.out.lt
    have hV : (wr.alloc (.cells #[.int .i64 0, .string ⟨#[]⟩, .nilIface, .float .f64 0, .slice none 0 0, .slice none 0 0, .slice none 0 0, .slice none 0 0, .slice none 0 0, .slice none 0 0, .pointer none] 63)).heap[wr.heap.size]? = _ := heap_new wr _
    have hBa : Below wr.heap.size wr (wr.alloc (.cells #[.int .i64 0, .string ⟨#[]⟩, .nilIface, .float .f64 0, .slice none 0 0, .slice none 0 0, .slice none 0 0, .slice none 0 0, .slice none 0 0, .slice none 0 0, .pointer none] 63)) := (Below.refl _ wr).alloc (Nat.le_refl _) _
    have hszA : (wr.alloc (.cells #[.int .i64 0, .string ⟨#[]⟩, .nilIface, .float .f64 0, .slice none 0 0, .slice none 0 0, .slice none 0 0, .slice none 0 0, .slice none 0 0, .slice none 0 0, .pointer none] 63)).heap.size = wr.heap.size + 1 := by
      show (wr.heap.push _).size = _
      simp
    have hlx := lex_any b wr.heap.size S j r' sp _ _ HS.out hj HRR.out ((HTB.out.below HBL.out).below (hBa.mono (Nat.le_of_lt hbw))) hV rfl hbw (HL.out.below hBa hbw)
    have HLX := Lib.hid hlx
    have HBA := Lib.hid hBa
    have HSZ := Lib.hid hszA
    clear hlx hBa hV hszA
    go_wp2_with fail
    refine HLX.out.mono ?_
    rintro en w2 hE
    clear HLX
    rcases hE with ⟨he1, rfl, hl2, hf2⟩ | ⟨d, r2, j2, he1, hr2, hj2, hj3, rfl, hne0, hnum, hc3, hl2, hf2⟩ | ⟨he1, rfl, ⟨t, x, j2, hl2⟩, hb2⟩
    · obtain ⟨ln, ls, lp, a1, a2, a3, a4, ry, y, h1, h2, h3, h4⟩ := hl2
      have c11 : w2.cell? ⟨b, 11, none⟩ = some .nilIface := by rw [Lib.cell_of_heap h4]; rfl
      have HF := Lib.hid hf2
      have HE := Lib.hid he1
      clear h1 h2 h3 h4 hf2 he1
      obtain ⟨wc, hwc⟩ : ∃ wc, (wr.alloc (.cells #[.int .i64 0, .string ⟨#[]⟩, .nilIface, .float .f64 0, .slice none 0 0, .slice none 0 0, .slice none 0 0, .slice none 0 0, .slice none 0 0, .slice none 0 0, .pointer none] 63)) = wc := ⟨_, rfl⟩
      rw [hwc] at HF HBA HSZ
      clear hwc
      go_wp2_with fail
      go_quiet (fail)
      go_wp2_with fail
      go_ret3
      have hkeep : ∀ k, b + 1 ≤ k → k < wr.heap.size → w2.heap[k]? = wr.heap[k]? := fun k hk1 hk2 => (HF.out.rest k (by omega) (by omega) (by rw [HSZ.out]; omega)).trans (HBA.out.block k hk2)
      have hbel : Below w.heap.size w w2 := ((HB1.out.trans (HBL.out.mono hb0)).trans (HBA.out.mono (by have := HB1.out.size; have := HBL.out.size; omega))).trans (HF.out.below.mono hb0)
      refine ⟨fun l' hl' => ?_, fun hn => ?_, Below.drewN hbel _⟩
      · have hre := HRE.out
        rw [HE.out] at hre
        rw [hre] at hl'
        simp at hl'
        subst hl'
        refine ⟨u2, u3, rfl, ⟨?_, ?_, HRW.out.ne⟩⟩
        · have h := own_heap (w' := w2.drewN nq) HRW.out.k (fun k hk => hkeep k (HRW.out.k.lt k hk).1 (HRW.out.k.lt k hk).2)
          exact own_mono h (by omega)
        · have h := own_heap (w' := w2.drewN nq) HRW.out.n (fun k hk => hkeep k (HRW.out.n.lt k hk).1 (HRW.out.n.lt k hk).2)
          exact own_mono h (by omega)
      · have hre := HRE.out
        rw [HE.out, hn] at hre
        cases hre
    · have HF := Lib.hid hf2
      have HE := Lib.hid he1
      have HL2 := Lib.hid hl2
      have hbw2 := hl2.lt
      have hkeep : ∀ k, b + 1 ≤ k → k < wr.heap.size → w2.heap[k]? = wr.heap[k]? := fun k hk1 hk2 => (hf2.rest k (by omega) (by omega) (by rw [HSZ.out]; omega)).trans (HBA.out.block k hk2)
      have hwr2 : wr.heap.size + 1 ≤ w2.heap.size := by have := hf2.below.size; rw [HSZ.out] at this; exact this
      have hrow2 : Rows2 w2 (b + 1) u2 u3 l := ⟨own_heap HRW.out.k (fun k hk => hkeep k (HRW.out.k.lt k hk).1 (HRW.out.k.lt k hk).2), own_heap HRW.out.n (fun k hk => hkeep k (HRW.out.n.lt k hk).1 (HRW.out.n.lt k hk).2), HRW.out.ne⟩
      have hltk : ∀ c, u2.ownBlock = some c → b + 1 ≤ c ∧ c < wr.heap.size := fun c hc => HRW.out.k.lt c hc
      have hltn : ∀ c, u3.ownBlock = some c → b + 1 ≤ c ∧ c < wr.heap.size := fun c hc => HRW.out.n.lt c hc
      have hb2 : Below b w1 w2 := (HBL.out.trans (HBA.out.mono (Nat.le_of_lt hbw))).trans hf2.below
      have HR2 := Lib.hid hrow2
      have HKN := Lib.hid (And.intro hltk hltn)
      have HB2 := Lib.hid hb2
      have HRN := Lib.hid hr2
      have HC3 := Lib.hid hc3
      have HNUM := Lib.hid hnum
      have h0 : (codeW d == 0) = false := by rw [beq_eq_false_iff_ne]; exact hne0
      clear hf2 he1 hl2 hkeep hrow2 hltk hltn hb2 hr2 hc3 hnum hne0 HF HBA HSZ HRW HRR HBL HL
      have hll : l.length ≤ 100000 := by omega
      go_wp2_with (at_builtin; refine push_one _ _ rfl 3 26 1 8 (.int .i64 0) rfl info_int Tryz.underlying26 rfl (by decide) (by decide) (b + 1) u2 l.length (kindsL l) w2 _ rfl (by intro u hu; simp at hu; subst hu; rfl) (by rfl) (by rfl) HR2.out.k hll hbw2 ?_)
      intro kv w3 hk3 hg3
      have hl3 : LexAt w3 b S j2 .nilIface := HL2.out.heap (hg3.block b hbw2 (fun e => by have := (HKN.out.1 b e).1; omega)).1
      have hn3 : w3.ownsRow (b + 1) 30 1 u3 (numsL l).length (numsL l) := own_heap HR2.out.n (fun c hc => (hg3.block c (by have := (HKN.out.2 c hc).2; omega) (fun e => HR2.out.ne c e hc)).1)
      have hne3 : ∀ c, kv.ownBlock = some c → u3.ownBlock ≠ some c := fun c hc hc' => (hg3.block c (by have := (HKN.out.2 c hc').2; omega) (fun e => HR2.out.ne c e hc')).2 hc
      have hV3 : w3.heap[wr.heap.size]? = w2.heap[wr.heap.size]? := (hg3.block wr.heap.size (by omega) (fun e => by have := (HKN.out.1 _ e).2; omega)).1
      have hcV : w3.cell? ⟨wr.heap.size, 3, none⟩ = w2.cell? ⟨wr.heap.size, 3, none⟩ := by simp only [World.cell?, hV3]
      have hb3 : Below b w1 w3 := HB2.out.trans (hg3.below.mono (Nat.le_succ b))
      have hbw3 : b + 1 ≤ w3.heap.size := by have := hg3.below.size; omega
      have hnlt3 : ∀ c, u3.ownBlock = some c → c < w3.heap.size := fun c hc => (hn3.lt c hc).2
      have hklt3 : ∀ c, kv.ownBlock = some c → b + 1 ≤ c ∧ c < w3.heap.size := fun c hc => hk3.lt c hc
      have HL3 := Lib.hid hl3
      have HK3 := Lib.hid hk3
      have HN3 := Lib.hid hn3
      have HNE := Lib.hid (And.intro hne3 (And.intro hnlt3 hklt3))
      have HB3 := Lib.hid hb3
      clear hl3 hk3 hn3 hne3 hV3 hb3 HB2 HL2 hnlt3 hklt3 hg3
      by_cases hsg : d.sign = 35
      · have h35 : (codeW d == 57375) = true := by rw [beq_iff_eq]; exact HNUM.out.2 hsg
        have hc := hcV.trans (HC3.out hsg)
        have hnl : (numsL l).length ≤ 100000 := Nat.le_trans (numsL_len l) hll
        have HSG := Lib.hid hsg
        clear hcV HC3 HNUM hsg
        go_wp2_with (at_builtin; refine push_one _ _ rfl 30 27 1 8 (.float .f64 0) rfl info_flt Tryz.underlying27 rfl (by decide) (by decide) (b + 1) u3 (numsL l).length (numsL l) w3 _ rfl (by intro u hu; simp at hu; subst hu; rfl) (by rfl) (by rfl) HN3.out hnl hbw3 ?_)
        intro nv w4 hn4 hg4
        have hl4 : LexAt w4 b S j2 .nilIface := HL3.out.heap (hg4.block b (by omega) (fun e => by have := (HN3.out.lt b e).1; omega)).1
        have hk4 := own_heap (w' := w4) HK3.out (fun c hc => (hg4.block c (HNE.out.2.2 c hc).2 (fun e => HNE.out.1 c hc e)).1)
        have hne4 : ∀ c, kv.ownBlock = some c → nv.ownBlock ≠ some c := fun c hc => (hg4.block c (HNE.out.2.2 c hc).2 (fun e => HNE.out.1 c hc e)).2
        have hb4 : Below b w1 w4 := HB3.out.trans (hg4.below.mono (Nat.le_succ b))
        have hR4 : Rows2 w4 (b + 1) kv nv (l ++ [d]) := by
          refine ⟨?_, ?_, hne4⟩
          · rw [kindsL_app, List.length_append]
            exact hk4
          · rw [numsL_app l d HSG.out, List.length_append]
            exact hn4
        have HR4 := Lib.hid hR4
        clear hk4 hn4 hne4 hR4 hg4
        go_wp2_with fail
        go_roundg (S.size - j2)
        case measure => omega
        case rel => exact ⟨j2, l ++ [d], r2, hj3, rfl, by simp; omega, HRN.out, by have := HE.out; have h2 := HRE.out; rw [h2, this]; cases r2 <;> simp, hl4, HR4.out, hb4⟩
      · have h35 : (codeW d == 57375) = false := by rw [beq_eq_false_iff_ne]; exact fun e => hsg (HNUM.out.1 e)
        have hR3 : Rows2 w3 (b + 1) kv u3 (l ++ [d]) := by
          refine ⟨?_, ?_, HNE.out.1⟩
          · rw [kindsL_app, List.length_append]
            exact HK3.out
          · rw [numsL_app0 l d hsg]
            exact HN3.out
        have HR3 := Lib.hid hR3
        clear hcV HC3 HNUM hsg hR3
        go_wp2_with fail
        go_roundg (S.size - j2)
        case measure => omega
        case rel => exact ⟨j2, l ++ [d], r2, hj3, rfl, by simp; omega, HRN.out, by have := HE.out; have h2 := HRE.out; rw [h2, this]; cases r2 <;> simp, HL3.out, HR3.out, HB3.out⟩
    · obtain ⟨ln, ls, lp, a1, a2, a3, a4, ry, y, h1, h2, h3, h4⟩ := hl2
      have c11 : w2.cell? ⟨b, 11, none⟩ = some (.iface t x) := by rw [Lib.cell_of_heap h4]; rfl
      have HF := Lib.hid hb2
      have HE := Lib.hid he1
      clear h1 h2 h3 h4 hb2 he1
      go_wp2_with fail
      go_quiet (fail)
      go_wp2_with fail
      go_ret3
      have hbel : Below w.heap.size w w2 := ((HB1.out.trans (HBL.out.mono hb0)).trans (HBA.out.mono (by have := HB1.out.size; have := HBL.out.size; omega))).trans (HF.out.mono hb0)
      refine ⟨fun l' hl' => ?_, fun hn => ?_, Below.drewN hbel _⟩
      · have hre := HRE.out
        rw [HE.out, hl'] at hre
        cases hre
      · obtain ⟨a1', m1, cp1, e1⟩ := own_sl HRW.out.k
        obtain ⟨a2', m2, cp2, e2⟩ := own_sl HRW.out.n
        exact ⟨a1', m1, cp1, a2', m2, cp2, t, x, by rw [e1, e2]; rfl⟩
end Go.Proofs.YtodihpaabkplhaaGreatDoor

namespace Go.Proofs.YtodihpaabkplhaaGreatDoor
open Go.RowKit

/-- The deferred closure, where nothing has panicked. -/
theorem tokens_idle (p q s : Addr) (w : World) :
    CallsD Tryz.prog 15 #[.pointer (some p), .pointer (some q), .pointer (some s)] .returning w fun e u' w' => e = .returned (.tuple #[]) ∧ u' = .returning ∧ w' = w := by
  refine callsD_of_wpS Tryz.func15 rfl fun c₀ cs hu => ?_
  apply wpS_seq
  apply wpS_region
  simp [wpOpsS, go_sem, recoverD, hu, Tryz.ntmps15, Exit.thenS]
  refine wpS_cond (t := false) (by simp [Act.eval, Array.replicate]) ?_
  simp only [Bool.false_eq_true, if_false]
  refine wpS_of_wp (wp_skip ?_)
  cases c₀
  simp_all [bodyPostS, results, Tryz.results15]

def TEnd (B : Nat) (r : Option (List Wd)) (w : World) (en : Ending) (w' : World) : Prop :=
  (∀ l, r = some l → ∃ kv nv, en = .returned (.tuple #[kv, nv, .bool true]) ∧ Rows2 w' B kv nv l) ∧
  (r = none → ∃ a1 n1 c1 a2 n2 c2, en = .returned (.tuple #[.slice a1 n1 c1, .slice a2 n2 c2, .bool false])) ∧ Below B w w'

set_option maxRecDepth 100000 in
set_option maxHeartbeats 2000000 in
theorem tokens_any (S : ByteArray) (r : Option (List Wd)) (sp : Spots) (w : World) (hS : Asc S) (hr : Run pfF S 0 r) (hT : Tab2 sp w) :
    Calls Tryz.prog 6 #[.string S] w (TEnd w.heap.size r w) := by
  have hmf : ∀ (fn : Fn) (first cap : Array Value) (w : World), (Instr.makeFunc fn first cap).run Tryz.prog w = .ok (.func fn first cap) w := fun _ _ _ _ => rfl
  obtain ⟨g, hg⟩ : ∃ g, w.heap.size = g := ⟨_, rfl⟩
  obtain ⟨W1, hW1⟩ : ∃ W1, ((w.alloc (.cells #[.slice none 0 0] 26)).alloc (.cells #[.slice none 0 0] 27)).alloc (.cells #[.bool false] 4) = W1 := ⟨_, rfl⟩
  have hs1 : (w.alloc (.cells #[.slice none 0 0] 26)).heap.size = g + 1 := by show (w.heap.push _).size = _; simp; exact hg
  have hs2 : ((w.alloc (.cells #[.slice none 0 0] 26)).alloc (.cells #[.slice none 0 0] 27)).heap.size = g + 2 := by show (World.heap _ |>.push _).size = _; simp [hs1]
  have hs3 : W1.heap.size = g + 3 := by rw [← hW1]; show (World.heap _ |>.push _).size = _; simp [hs2]
  have hB1 : Below g w W1 := hW1 ▸ (((Below.refl _ _).alloc (by omega) _).alloc (by omega) _).alloc (by omega) _
  have hd := doorTokens_any S r sp W1 hS hr (hT.below (hg ▸ hB1))
  have c1 : W1.heap[g]? = some (.cells #[.slice none 0 0] 26 (0, 0)) := by
    rw [← hW1, Below.heap_alloc _ _ g (by omega), Below.heap_alloc _ _ g (by omega), ← hg]
    exact heap_new _ _
  have c2 : W1.heap[g + 1]? = some (.cells #[.slice none 0 0] 27 (0, 0)) := by
    rw [← hW1, Below.heap_alloc _ _ (g + 1) (by omega), ← hs1]
    exact heap_new _ _
  have c3 : W1.heap[g + 2]? = some (.cells #[.bool false] 4 (0, 0)) := by
    rw [← hW1, ← hs2]
    exact heap_new _ _
  rw [hs3] at hd
  have HD := Lib.hid hd
  clear hT hr hS hs1 hs2 hd
  go_enter_defers Tryz.func6, Tryz.ntmps6
  go_wp2_with fail
  refine HD.out.mono ?_
  rintro en w2 ⟨hy, hn, hB2⟩
  have k1 : w2.heap[g]? = some (.cells #[.slice none 0 0] 26 (0, 0)) := (hB2.block g (by omega)).trans c1
  have k2 : w2.heap[g + 1]? = some (.cells #[.slice none 0 0] 27 (0, 0)) := (hB2.block (g + 1) (by omega)).trans c2
  have k3 : w2.heap[g + 2]? = some (.cells #[.bool false] 4 (0, 0)) := (hB2.block (g + 2) (by omega)).trans c3
  have d1 : w2.cell? ⟨g, 0, none⟩ = some (.slice none 0 0) := by rw [Lib.cell_of_heap k1]; rfl
  have d2 : w2.cell? ⟨g + 1, 0, none⟩ = some (.slice none 0 0) := by rw [Lib.cell_of_heap k2]; rfl
  have d3 : w2.cell? ⟨g + 2, 0, none⟩ = some (.bool false) := by rw [Lib.cell_of_heap k3]; rfl
  have f1 : w2.frozen? ⟨g, 0, none⟩ = false := Lib.frozen_of_heap k1 0
  have f2 : w2.frozen? ⟨g + 1, 0, none⟩ = false := Lib.frozen_of_heap k2 0
  have f3 : w2.frozen? ⟨g + 2, 0, none⟩ = false := Lib.frozen_of_heap k3 0
  have hB3 : Below g w w2 := hB1.trans (hB2.mono (by omega))
  clear k1 k2 k3 c1 c2 c3 hB1 HD
  cases r with
  | some l =>
    obtain ⟨kv, nv, rfl, hrow⟩ := hy l rfl
    obtain ⟨a1, n1, cp1, rfl⟩ := own_sl hrow.k
    obtain ⟨a2, n2, cp2, rfl⟩ := own_sl hrow.n
    have HR := Lib.hid hrow
    clear hy hn hrow
    go_wp2
    go_region
    all_goals go_wp2
    have hBf : Below g w (((w2.setCell ⟨g, 0, none⟩ (.slice a1 n1 cp1)).setCell ⟨g + 1, 0, none⟩ (.slice a2 n2 cp2)).setCell ⟨g + 1 + 1, 0, none⟩ (.bool true)).drew := (((hB3.setCell (p := ⟨g, 0, none⟩) (Nat.le_refl _) _).setCell (p := ⟨g + 1, 0, none⟩) (by show g ≤ g + 1; omega) _).setCell (p := ⟨g + 1 + 1, 0, none⟩) (by show g ≤ g + 1 + 1; omega) _).drew
    have hkp : ∀ k, g + 3 ≤ k → (((w2.setCell ⟨g, 0, none⟩ (.slice a1 n1 cp1)).setCell ⟨g + 1, 0, none⟩ (.slice a2 n2 cp2)).setCell ⟨g + 1 + 1, 0, none⟩ (.bool true)).drew.heap[k]? = w2.heap[k]? := fun k hk =>
      (Below.heap_setCell _ ⟨g + 1 + 1, 0, none⟩ _ k (by show k ≠ g + 1 + 1; omega)).trans ((Below.heap_setCell _ ⟨g + 1, 0, none⟩ _ k (by show k ≠ g + 1; omega)).trans (Below.heap_setCell _ ⟨g, 0, none⟩ _ k (by show k ≠ g; omega)))
    have HBF := Lib.hid hBf
    have HKP := Lib.hid hkp
    clear hBf hkp
    refine leaves_cons (f := 15) (args := #[.pointer (some ⟨g, 0, none⟩), .pointer (some ⟨g + 1, 0, none⟩), .pointer (some ⟨g + 1 + 1, 0, none⟩)]) (by simp) (by simp [go_sem]) ?_
    refine (tokens_idle ⟨g, 0, none⟩ ⟨g + 1, 0, none⟩ ⟨g + 1 + 1, 0, none⟩ _).mono ?_
    rintro e u' w'' ⟨rfl, rfl, rfl⟩
    simp [Leaves, settle, results, Tryz.results6, go_sem, d1, d2, d3]
    rw [hg]
    exact ⟨fun l' hl' => by
      cases hl'
      exact ⟨_, _, rfl, ⟨own_mono (own_heap HR.out.k (fun k hk => HKP.out k (HR.out.k.lt k hk).1)) (by omega), own_mono (own_heap HR.out.n (fun k hk => HKP.out k (HR.out.n.lt k hk).1)) (by omega), HR.out.ne⟩⟩, fun h => (by cases h), HBF.out⟩
  | none =>
    obtain ⟨a1, n1, cp1, a2, n2, cp2, t, x, rfl⟩ := hn rfl
    clear hy hn
    go_wp2
    go_region
    all_goals go_wp2
    have hBf : Below g w (((w2.setCell ⟨g, 0, none⟩ (.slice a1 n1 cp1)).setCell ⟨g + 1, 0, none⟩ (.slice a2 n2 cp2)).setCell ⟨g + 1 + 1, 0, none⟩ (.bool false)).drew := (((hB3.setCell (p := ⟨g, 0, none⟩) (Nat.le_refl _) _).setCell (p := ⟨g + 1, 0, none⟩) (by show g ≤ g + 1; omega) _).setCell (p := ⟨g + 1 + 1, 0, none⟩) (by show g ≤ g + 1 + 1; omega) _).drew
    have hkp : ∀ k, g + 3 ≤ k → (((w2.setCell ⟨g, 0, none⟩ (.slice a1 n1 cp1)).setCell ⟨g + 1, 0, none⟩ (.slice a2 n2 cp2)).setCell ⟨g + 1 + 1, 0, none⟩ (.bool false)).drew.heap[k]? = w2.heap[k]? := fun k hk =>
      (Below.heap_setCell _ ⟨g + 1 + 1, 0, none⟩ _ k (by show k ≠ g + 1 + 1; omega)).trans ((Below.heap_setCell _ ⟨g + 1, 0, none⟩ _ k (by show k ≠ g + 1; omega)).trans (Below.heap_setCell _ ⟨g, 0, none⟩ _ k (by show k ≠ g; omega)))
    have HBF := Lib.hid hBf
    have HKP := Lib.hid hkp
    clear hBf hkp
    refine leaves_cons (f := 15) (args := #[.pointer (some ⟨g, 0, none⟩), .pointer (some ⟨g + 1, 0, none⟩), .pointer (some ⟨g + 1 + 1, 0, none⟩)]) (by simp) (by simp [go_sem]) ?_
    refine (tokens_idle ⟨g, 0, none⟩ ⟨g + 1, 0, none⟩ ⟨g + 1 + 1, 0, none⟩ _).mono ?_
    rintro e u' w'' ⟨rfl, rfl, rfl⟩
    simp [Leaves, settle, results, Tryz.results6, go_sem, d1, d2, d3]
    rw [hg]
    exact ⟨fun l' hl' => (by cases hl'), fun _ => ⟨_, _, _, _, _, _, rfl⟩, HBF.out⟩
end Go.Proofs.YtodihpaabkplhaaGreatDoor
