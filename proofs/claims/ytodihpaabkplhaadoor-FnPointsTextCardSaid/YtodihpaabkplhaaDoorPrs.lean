/- append of one element of any size; spec.Rows. spec.NumParts, spec.Parts. -/
import Derived.Test.YtodihpaabkplhaaDoorJoi
import Derived.Deep.DeepCutAuto
import Derived.Laws.OwnMore
import Derived.Test.YtodihpaabkplhaaDoorPrt

namespace Go.Proofs.YtodihpaabkplhaaDoor
open Go.RowKit

/-- Some cells that lie in a block of their own. -/
theorem news_new (w : World) (cs : Array Value) (t : TypeId) : ∀ j u, cs.toList[j]? = some u → (w.alloc (.cells cs t)).cell? ((⟨w.heap.size, 0, none⟩ : Addr).add j) = some u := by
  intro j u hj
  have e : ((⟨w.heap.size, 0, none⟩ : Addr).add j) = ⟨w.heap.size, j, none⟩ := by
    unfold Addr.add
    split
    · rename_i h0; rw [h0]
    · simp
  rw [e]
  have h := Box.new w t cs
  rw [h.cell j]
  simpa using hj

/-- 'append(v, x)' of one element, which has been laid into a block of its own first. -/
theorem wpList_pushN {ops : Array Oper} {rest : List Oper} {o : Oper} {a : Act} {Q : Exit → Act → World → Prop} (s x : Operand) (ts te : TypeId) (z : Value) (size bytes : Nat) (hgd : o.guard = none)
    (ho : o.op = .call { callee := .builtin .append, args := #[s, x], argTypes := #[ts, ts] })
    (ht : Tryd.prog.underlying ts = some (.slice te)) (hinf : (Tryd.prog.info? te).map (fun i => (i.zero, i.size, i.bytes)) = some (some z, size, bytes)) (hzs : z.cells.size = size) (hsz : 0 < size)
    (B : Nat) (v : Value) (n : Nat) (xs : List Value) (cs : Array Value) (W : World) (hs : a.eval s = v) (hx : a.eval x = .slice (some ⟨W.heap.size, 0, none⟩) 1 1) (hcs : cs.size = size) (h1 : ∀ u ∈ cs.toList, u.oneCell' = true)
    (hown : W.ownsRow B te size v n xs) (h63 : n + 1 ≤ maxLen) (hbytes : (n + 1) * bytes ≤ 140737488355328) (hB : B ≤ W.heap.size)
    (h : ∀ v' w', w'.ownsRow B te size v' (n + 1) (xs ++ cs.toList) → Below B W w' → (∀ b, b < W.heap.size → v.ownBlock ≠ some b → w'.heap[b]? = W.heap[b]?) → (∃ g cap, v' = .slice (some ⟨g, 0, none⟩) (n + 1) cap ∧ (v.ownBlock = some g ∨ W.heap.size < g)) → wpList Tryd.prog ops Q rest (a.put o.dst v') w') :
    wpList Tryd.prog ops Q (o :: rest) a (W.alloc (.cells cs te)) := by
  obtain ⟨i0, hi, hz0, hz1, hz2⟩ := info_parts hinf
  refine wpList_append_own_at (P := Tryd.prog) (w := W.alloc (.cells cs te)) hgd s x ts ho B te i0 z size bytes ht hi hz0 hz1 hz2 hzs hsz v n xs hs (hown.alloc _) ⟨W.heap.size, 0, none⟩ 1 1 cs.toList hx (by simpa using hcs) (news_new _ _ _) h1 h63 hbytes (by simp; omega) ?_
  intro v' w' h1 h2 h3 h4
  refine h v' w' h1 ?_ ?_ ?_
  · exact ((Below.refl B W).alloc hB _).grown h2 (by simp; omega) (fun k hk => (hown.lt k hk).1)
  · intro b hb hne
    have e : (W.alloc (.cells cs te)).heap[b]? = W.heap[b]? := Below.heap_alloc W _ b hb
    exact (h2.block b (by simp; omega) (fun e => hne e.symm)).trans e
  · have hv0 : ∃ g cap, v' = .slice (some ⟨g, 0, none⟩) (n + 1) cap := by
      rcases h1.2 with ⟨_, h0⟩ | ⟨g, cap, _, hv, _⟩
      · omega
      · exact ⟨g, cap, hv⟩
    obtain ⟨g, cap, hv⟩ := hv0
    refine ⟨g, cap, hv, ?_⟩
    rcases h4 with h4 | h4
    · left
      rw [← h4, hv]
      rfl
    · right
      rw [hv] at h4
      simp [Value.ownBlock] at h4
      omega

theorem info_row : (Tryd.prog.info? 22).map (fun i => (i.zero, i.size, i.bytes)) = some (some (.slice none 0 0), 1, 24) := by kernel_rfl

/-- The rows of a row. -/
def rowsL (blk off s cap : Nat) (k : Nat) : List Value := (List.range k).map fun i => .slice (some ⟨blk, off + i * s, none⟩) s (cap - i * s)
theorem rowsL_succ (blk off s cap k : Nat) : rowsL blk off s cap (k + 1) = rowsL blk off s cap k ++ [.slice (some ⟨blk, off + k * s, none⟩) s (cap - k * s)] := by
  unfold rowsL
  rw [List.range_succ, List.map_append]
  rfl
theorem rowsL_get (blk off s cap k i : Nat) (hi : i < k) : (rowsL blk off s cap k)[i]? = some (.slice (some ⟨blk, off + i * s, none⟩) s (cap - i * s)) := by
  unfold rowsL
  simp [hi]

/-- A value that owns a row. -/
def OwnV (w : World) (B : Nat) (te : TypeId) (size : Nat) (v : Value) (n : Nat) (xs : List Value) : Prop := w.ownsRow B te size v n xs

set_option maxRecDepth 100000 in
set_option maxHeartbeats 1600000 in
theorem rows_any (blk off n k s cap : Nat) (w : World) (hn : n = k * s) (hs : 1 ≤ s) (hcap : n ≤ cap) (hcm : n ≤ 100000) (hs9 : s ≤ 100000) :
    Calls Tryd.prog 12 #[.slice (some ⟨blk, off, none⟩) n cap, .int .i64 s] w fun en w' => ∃ v, en = .returned v ∧ OwnV w' w.heap.size 22 1 v k (rowsL blk off s cap k) ∧ Below w.heap.size w w' := by
  obtain ⟨B, hBe⟩ : ∃ B, w.heap.size = B := ⟨_, rfl⟩
  rw [hBe]
  have HBe := Lib.hid hBe
  have HN := Lib.hid hn
  have hkn : k ≤ n := by rw [hn]; exact Nat.le_mul_of_pos_right k hs
  have HK := Lib.hid hkn
  have hs0 : (0 : Int) < (s : Int) := by omega
  have hnI : (n : Int) ≤ 100000 := by omega
  have hsI : (s : Int) ≤ 100000 := by omega
  have hs0' : 0 < s := by omega
  clear hn hBe hkn
  go_enter Tryd.func12, Tryd.ntmps12
  go_wp2_with fail
  go_loopg [6, 5] k (fun m v6 v5 wr => ∃ (q : Nat) (ao : Option Addr) (c : Nat), q + m = k ∧ v6 = .int .i64 ((q * s : Nat) : Int) ∧ v5 = .slice ao q c ∧ OwnV wr B 22 1 (.slice ao q c) q (rowsL blk off s cap q) ∧ Below B w wr)
  case atStart => exact ⟨0, none, 0, by omega, by simp, rfl, World.ownsRow_nil _ _ _ _, Below.refl _ _⟩
  case round =>
    obtain ⟨q, ao, c, hq, rfl, rfl, hown, hB⟩ := hrel
    obtain ⟨i, hi⟩ : ∃ i, q * s = i := ⟨_, rfl⟩
    rw [hi]
    have HI := Lib.hid hi
    cases gk with
    | zero =>
      have hin : n = i := by rw [HN.out, ← hi]; congr 1; omega
      have hlt : (n : Int) < (i : Int) + (s : Int) := by omega
      have hlt2 : ¬ (i : Int) + (s : Int) ≤ (n : Int) := by omega
      have hiI : (i : Int) ≤ 100000 := by omega
      have hqk : q = k := by omega
      have HQ := Lib.hid hqk
      clear hin hi hqk
      go_wp2_with fail
      go_ret
      exact ⟨_, rfl, by rw [← HQ.out]; exact hown, hB⟩
    | succ m =>
      have hin : i + s ≤ n := by
        have h1 : (q + 1) * s ≤ k * s := Nat.mul_le_mul_right s (by omega)
        have h2 := HN.out
        rw [Nat.succ_mul, hi] at h1
        omega
      have his : (i : Int) + (s : Int) ≤ (n : Int) := by omega
      have hic : (i : Int) + (s : Int) ≤ (cap : Int) := by omega
      have hne : ¬ cap = i := by omega
      have hbw : B ≤ wr.heap.size := by have := HBe.out; have := hB.size; omega
      have hown2 : wr.ownsRow B 22 1 (.slice ao q c) q (rowsL blk off s cap q) := hown
      have hq9 : q ≤ 100000 := by have := HK.out; omega
      have HQ9 := Lib.hid hq9
      clear hi hin hq9 hown
      go_wp2_with (at_builtin; refine wpList_pushN _ _ 36 22 (.slice none 0 0) 1 24 rfl rfl Tryd.underlying36 info_row rfl (by decide) B (.slice ao q c) q (rowsL blk off s cap q) _ _ rfl rfl rfl ?h1 hown2 ?h63 ?hb hbw ?_)
      case h1 => first | rfl | (intro u hu; simp at hu; subst hu; rfl)
      case h63 => have := HQ9.out; unfold maxLen; omega
      case hb => have := HQ9.out; omega
      intro v' w' hown' hB' _ g c' hv _
      subst hv
      have hBB := hB.trans hB'
      have hle : i + s = (q + 1) * s := by rw [Nat.succ_mul, HI.out]
      have HLE := Lib.hid hle
      clear hle hB hB' hown2
      go_wp2_with fail
      go_roundg m
      case measure => omega
      case rel => exact ⟨q + 1, some ⟨g, 0, none⟩, c', by omega, by rw [← HLE.out]; rfl, rfl, by rw [rowsL_succ, HI.out]; exact hown', hBB⟩
end Go.Proofs.YtodihpaabkplhaaDoor

namespace Go.Proofs.YtodihpaabkplhaaDoor
open Go.RowKit

theorem numParts_ends {sr : Int} (k l : Int) (fv sv kv : Value) (ea : Option Addr) (en ec : Nat) (w : World) (hk : k = 3 ∨ k = 4 ∨ k = 5) :
    Calls Tryd.prog 42 #[geomV k l sr fv (.slice ea en ec) sv kv] w fun e w' => e = .returned (.int .i64 en) ∧ Below w.heap.size w w' := by
  obtain ⟨hbx, hB⟩ := boxed w k l sr fv (.slice ea en ec) sv kv
  unfold geomV
  rcases hk with rfl | rfl | rfl
  all_goals
    go_enter Tryd.func42, Tryd.ntmps42
    go_wp2_with fail
    go_ret
    exact ⟨rfl, hB⟩
theorem numParts_areas {sr : Int} (l : Int) (fv ev kv : Value) (sa : Option Addr) (sn sc : Nat) (w : World) :
    Calls Tryd.prog 42 #[geomV 6 l sr fv ev (.slice sa sn sc) kv] w fun e w' => e = .returned (.int .i64 sn) ∧ Below w.heap.size w w' := by
  obtain ⟨hbx, hB⟩ := boxed w 6 l sr fv ev (.slice sa sn sc) kv
  unfold geomV
  go_enter Tryd.func42, Tryd.ntmps42
  go_wp2_with fail
  go_ret
  exact ⟨rfl, hB⟩
theorem numParts_leaf {sr : Int} (k l : Int) (fv ev sv : Value) (w : World) (hk : k = 1 ∨ k = 2 ∨ k = 8) :
    Calls Tryd.prog 42 #[geomV k l sr fv ev sv (.slice none 0 0)] w fun e w' => e = .returned (.int .i64 ((0 : Nat) : Int)) ∧ Below w.heap.size w w' := by
  obtain ⟨hbx, hB⟩ := boxed w k l sr fv ev sv (.slice none 0 0)
  unfold geomV
  rcases hk with rfl | rfl | rfl
  all_goals
    go_enter Tryd.func42, Tryd.ntmps42
    go_wp2_with fail
    go_ret
    exact ⟨rfl, hB⟩

theorem info_geom : (Tryd.prog.info? 33).map (fun i => (i.zero, i.size, i.bytes)) = some (some (.agg #[.int .i64 0, .int .i64 0, .int .i64 0, .slice none 0 0, .slice none 0 0, .slice none 0 0, .slice none 0 0]), 7, 120) := by kernel_rfl
/-- The cells of the first n parts. -/
def partsL (P : Nat → Array Value) : Nat → List Value
  | 0 => []
  | n + 1 => partsL P n ++ (P n).toList
theorem partsL_length (P : Nat → Array Value) : ∀ n, (∀ i, i < n → (P i).size = 7) → (partsL P n).length = n * 7
  | 0, _ => rfl
  | n + 1, h => by
    rw [partsL, List.length_append, partsL_length P n (fun i hi => h i (by omega)), Array.length_toList, h n (by omega)]
    omega
theorem partsL_get (P : Nat → Array Value) (i j : Nat) (hj : j < 7) : ∀ n, (∀ i, i < n → (P i).size = 7) → i < n → (partsL P n)[i * 7 + j]? = (P i)[j]?
  | 0, _, hi => absurd hi (by omega)
  | n + 1, h, hi => by
    have hl := partsL_length P n (fun i hi => h i (by omega))
    rw [partsL]
    rcases Nat.lt_or_ge i n with hl2 | hl2
    · rw [List.getElem?_append_left (by omega)]
      exact partsL_get P i j hj n (fun i hi => h i (by omega)) hl2
    · obtain rfl : i = n := by omega
      rw [List.getElem?_append_right (by omega), hl, Nat.add_sub_cancel_left, Array.getElem?_toList]
theorem partsL_congr (P R : Nat → Array Value) : ∀ n, (∀ i, i < n → P i = R i) → partsL P n = partsL R n
  | 0, _ => rfl
  | n + 1, h => by rw [partsL, partsL, partsL_congr P R n (fun i hi => h i (by omega)), h n (by omega)]
/-- What each part is. -/
structure PartSpec where
  k : Int
  m : Nat → Nat
  ys : Nat → Nat → Nat
  en : Nat → Nat
  es : Nat → Nat → Nat
def PartsOk (w : World) (l : Int) (s : PartSpec) (P : Nat → Array Value) (n : Nat) : Prop := ∀ i, i < n → PartV w s.k l (s.m i) (s.ys i) (s.en i) (s.es i) (P i)
theorem PartV.size {w : World} {k l : Int} {m : Nat} {ys : Nat → Nat} {en : Nat} {es : Nat → Nat} {cs : Array Value} (h : PartV w k l m ys en es cs) : cs.size = 7 := by
  obtain ⟨_, _, _, _, rfl, _⟩ := h; rfl
theorem PartV.mono {w w' : World} {k l : Int} {m : Nat} {ys : Nat → Nat} {en : Nat} {es : Nat → Nat} {cs : Array Value} (h : PartV w k l m ys en es cs)
    (hk : ∀ (b : Nat) (a : Array Value) (T : TypeId), T ≠ 33 → w.heap[b]? = some (Obj.cells a T (0, 0)) → w'.heap[b]? = w.heap[b]?) : PartV w' k l m ys en es cs := by
  obtain ⟨fo, fp, eo, ep, hc, hm, hf, hi⟩ := h
  exact ⟨fo, fp, eo, ep, hc, hm, hf.mono (fun b a => hk b a _ (by decide)), hi.mono (fun b a => hk b a _ (by decide))⟩
theorem PartV.below {w w' : World} {k l : Int} {m : Nat} {ys : Nat → Nat} {en : Nat} {es : Nat → Nat} {cs : Array Value} (h : PartV w k l m ys en es cs) (hb : Below w.heap.size w w') : PartV w' k l m ys en es cs :=
  h.mono fun b _ _ _ h0 => hb.block b (heap_lt h0)

/-- What spec.Parts hands back. -/
def PartsOut (l : Int) (s : PartSpec) (n : Nat) (w : World) (e : Ending) (w' : World) : Prop :=
  ∃ (v : Value) (P : Nat → Array Value), e = .returned v ∧ OwnV w' (w.heap.size + 1) 33 7 v n (partsL P n) ∧ PartsOk w' l s P n ∧ Below w.heap.size w w'
/-- While they are put together. -/
def PartsRel (l : Int) (s : PartSpec) (w wr : World) (i : Nat) (ao : Option Addr) (c : Nat) : Prop :=
  ∃ P : Nat → Array Value, OwnV wr (w.heap.size + 1) 33 7 (.slice ao i c) i (partsL P i) ∧ PartsOk wr l s P i
theorem own_ne {w : World} {B n : Nat} {v : Value} {xs : List Value} (h : w.ownsRow B 33 7 v n xs) {b : Nat} {a : Array Value} {T : TypeId} (hT : T ≠ 33) (hb : w.heap[b]? = some (Obj.cells a T (0, 0))) : v.ownBlock ≠ some b := by
  rcases h.2 with ⟨rfl, _⟩ | ⟨g, cap, cur, rfl, _, hh, _⟩
  · simp [Value.ownBlock]
  · intro he
    have : g = b := by simpa [Value.ownBlock] using he
    subst this
    rw [hh] at hb
    injection hb with hb
    injection hb with _ h2
    exact hT h2.symm

theorem own_below {w w' : World} {B n size : Nat} {te : TypeId} {v : Value} {xs : List Value} (h : OwnV w B te size v n xs) (hb : Below w.heap.size w w') : OwnV w' B te size v n xs := by
  refine ⟨h.1, ?_⟩
  rcases h.2 with ⟨e, h0⟩ | ⟨g, cap, cur, e, hBg, hg, h4⟩
  · exact Or.inl ⟨e, h0⟩
  · exact Or.inr ⟨g, cap, cur, e, hBg, (hb.block g (heap_lt hg)).trans hg, h4⟩
set_option maxRecDepth 100000 in
set_option maxHeartbeats 1600000 in
theorem parts_any {sr : Int} (k l : Int) (fa ea sa ka : Option Addr) (fn fc en ec sn sc kn kc : Nat) (s : PartSpec) (n : Nat) (w : World) (hn9 : n ≤ 100000)
    (hnum : ∀ w', Calls Tryd.prog 42 #[geomV k l sr (.slice fa fn fc) (.slice ea en ec) (.slice sa sn sc) (.slice ka kn kc)] w' fun e w'' => e = .returned (.int .i64 n) ∧ Below w'.heap.size w' w'')
    (hpart : ∀ i w', i < n → Below w.heap.size w w' → Calls Tryd.prog 43 #[geomV k l sr (.slice fa fn fc) (.slice ea en ec) (.slice sa sn sc) (.slice ka kn kc), .int .i64 i] w' (PartOut s.k l (s.ys i) (s.m i) (s.en i) (s.es i) w')) :
    Calls Tryd.prog 24 #[geomV k l sr (.slice fa fn fc) (.slice ea en ec) (.slice sa sn sc) (.slice ka kn kc)] w (PartsOut l s n w) := by
  obtain ⟨hbx, hB⟩ := boxed w k l sr (.slice fa fn fc) (.slice ea en ec) (.slice sa sn sc) (.slice ka kn kc)
  have HP := Lib.hid hpart
  have HN9 := Lib.hid hn9
  clear hpart hn9
  unfold geomV at hnum
  go_enter Tryd.func24, Tryd.ntmps24
  rw [show geomV k l sr (.slice fa fn fc) (.slice ea en ec) (.slice sa sn sc) (.slice ka kn kc) = .agg #[.int .i64 k, .int .i64 l, .int .i64 sr, .slice fa fn fc, .slice ea en ec, .slice sa sn sc, .slice ka kn kc] from rfl]
  go_wp2_with fail
  refine (hnum _).mono ?_
  rintro en1 w1 ⟨rfl, hB1⟩
  clear hnum
  have hbx1 := hbx.below hB1
  have hBw := hB.trans (hB1.mono hB.size)
  clear hbx hB hB1
  go_wp2_with fail
  go_loopg [7, 3] n (fun m v7 v3 wr => ∃ (i : Nat) (ao : Option Addr) (c : Nat), i + m = n ∧ v7 = .int .i64 (i : Int) ∧ v3 = .slice ao i c ∧ PartsRel l s w wr i ao c ∧ Below w.heap.size w wr ∧ Box wr w.heap.size 33 (geomC k l sr (.slice fa fn fc) (.slice ea en ec) (.slice sa sn sc) (.slice ka kn kc)))
  case atStart => exact ⟨0, none, 0, by omega, rfl, rfl, ⟨fun _ => #[], World.ownsRow_nil _ _ _ _, fun _ h => absurd h (by omega)⟩, hBw, hbx1⟩
  case round =>
    clear hbx1 hBw
    obtain ⟨i, ao, c, hi, rfl, rfl, hrel, hB, hbx⟩ := hrel
    cases gk with
    | zero =>
      have hin : i = n := by omega
      subst hin
      go_wp2_with fail
      go_ret
      obtain ⟨P, h1, h2⟩ := hrel
      exact ⟨_, P, rfl, h1, h2, hB⟩
    | succ m =>
      have hp := HP.out i wr (by omega) hB
      obtain ⟨c0, c1, c2, c3, c4, c5, c6⟩ := hbx.cells7
      have hlt : (i : Int) < (n : Int) := by omega
      have hi9 : i ≤ 100000 := by have := HN9.out; omega
      have hiI : (i : Int) ≤ 100000 := by omega
      have HI9 := Lib.hid hi9
      unfold geomV at hp
      clear hi9
      go_wp2_with fail
      refine hp.mono ?_
      rintro en2 w2 ⟨cs, rfl, hv, hB2⟩
      clear hp c0 c1 c2 c3 c4 c5 c6
      obtain ⟨P, hown, hok⟩ := hrel
      have hok2 : PartsOk w2 l s P i := fun j hj => (hok j hj).below hB2
      have hown2 : w2.ownsRow (w.heap.size + 1) 33 7 (.slice ao i c) i (partsL P i) := own_below hown hB2
      have hbx2 := hbx.below hB2
      have hBB := hB.trans (hB2.mono hB.size)
      have hbw : w.heap.size + 1 ≤ w2.heap.size := hbx2.lt
      have hv0 := hv
      obtain ⟨fo, fp, eo, ep, rfl, _⟩ := hv0
      have HOK := Lib.hid hok2
      have HV := Lib.hid hv
      have HBX := Lib.hid hbx2
      clear hok hok2 hown hB hB2 hbx hv hbx2
      go_wp2_with (at_builtin; refine wpList_pushN _ _ 31 33 _ 7 120 rfl rfl Tryd.underlying31 info_geom rfl (by decide) (w.heap.size + 1) (.slice ao i c) i (partsL P i) _ _ rfl rfl rfl ?h1 hown2 ?h63 ?hb hbw ?_)
      case h1 => first | rfl | (intro u hu; simp at hu; rcases hu with rfl | rfl | rfl | rfl | rfl | rfl | rfl <;> rfl) | decide | simp [Value.oneCell']
      case h63 => have := HI9.out; unfold maxLen; omega
      case hb => have := HI9.out; omega
      intro v' w' hown' hB' hblk g c' hv' _
      subst hv'
      have hkeep : ∀ (b : Nat) (a : Array Value) (T : TypeId), T ≠ 33 → w2.heap[b]? = some (Obj.cells a T (0, 0)) → w'.heap[b]? = w2.heap[b]? := fun b a T hT hb => hblk b (heap_lt hb) (own_ne hown2 hT hb)
      have hB3 := hBB.trans (hB'.mono (Nat.le_succ _))
      have hnew : PartsRel l s w w' (i + 1) (some ⟨g, 0, none⟩) c' := by
        refine ⟨fun j => if j = i then #[.int .i64 s.k, .int .i64 l, .int .i64 0, .slice fo (s.m i) fp, .slice eo (s.en i) ep, .slice none 0 0, .slice none 0 0] else P j, ?_, fun j hj => ?_⟩
        · have e : partsL (fun j => if j = i then #[.int .i64 s.k, .int .i64 l, .int .i64 0, .slice fo (s.m i) fp, .slice eo (s.en i) ep, .slice none 0 0, .slice none 0 0] else P j) (i + 1) = partsL P i ++ #[.int .i64 s.k, .int .i64 l, .int .i64 0, .slice fo (s.m i) fp, .slice eo (s.en i) ep, .slice none 0 0, .slice none 0 0].toList := by
            rw [partsL, if_pos rfl, partsL_congr _ P i (fun j hj => if_neg (by omega))]
          rw [e]
          exact hown'
        · by_cases hji : j = i
          · subst hji
            simp only [if_pos]
            exact HV.out.mono hkeep
          · simp only [if_neg hji]
            exact (HOK.out j (by omega)).mono hkeep
      have hbx3 : Box w' w.heap.size 33 (geomC k l sr (.slice fa fn fc) (.slice ea en ec) (.slice sa sn sc) (.slice ka kn kc)) := by
        exact (hB'.block w.heap.size (Nat.lt_succ_self _)).trans HBX.out
      clear hown' hown2 hblk hkeep hBB hB'
      go_wp2_with fail
      go_roundg m
      case measure => omega
      case rel => exact ⟨i + 1, some ⟨g, 0, none⟩, c', by omega, rfl, rfl, hnew, hB3, hbx3⟩
end Go.Proofs.YtodihpaabkplhaaDoor
