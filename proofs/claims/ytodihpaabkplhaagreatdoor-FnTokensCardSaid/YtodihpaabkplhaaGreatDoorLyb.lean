/- FnTokens' helpers: a row read back; gInts, SameFloats of equal rows; AskedWKT, xAsked. Two rows that grow beside each other; append of one element as a step of a region that draws; what the tokens of a text are like. -/
import Derived.Test.YtodihpaabkplhaaGreatDoorLxl
import Derived.Deep.QuietTactic
import Derived.BigQuiet
import Derived.Laws.Externs
import Derived.Test.YtodihpaabkplhaaGreatDoorLxm
import Derived.Deep.RegionLaw

namespace Go.Proofs.YtodihpaabkplhaaGreatDoor
open Go.RowKit

/-- A slice whose cells are known. -/
def ReadR (w : World) (v : Value) (xs : List Value) : Prop := ∃ ao cap, v = .slice ao xs.length cap ∧ ∀ j x, xs[j]? = some x → ∃ g, ao = some ⟨g, 0, none⟩ ∧ w.cell? ⟨g, j, none⟩ = some x
theorem own_read {w : World} {B : Nat} {el : TypeId} {v : Value} {n : Nat} {xs : List Value} (h : w.ownsRow B el 1 v n xs) : ReadR w v xs := by
  have hl : xs.length = n := by rw [h.1, Nat.mul_one]
  rcases h.2 with ⟨rfl, rfl⟩ | ⟨g, cap, cur, rfl, _⟩
  · refine ⟨none, 0, by rw [hl], fun j x hx => ?_⟩
    have := (List.getElem?_eq_some_iff.1 hx).1
    omega
  · refine ⟨_, cap, by rw [hl], fun j x hx => ⟨g, rfl, ?_⟩⟩
    have hj := (List.getElem?_eq_some_iff.1 hx).1
    rw [h.cellAt j (by omega)]
    exact hx
theorem ReadR.below {w w' : World} {v : Value} {xs : List Value} (h : ReadR w v xs) (hb : Below w.heap.size w w') : ReadR w' v xs := by
  obtain ⟨ao, cap, rfl, hc⟩ := h
  refine ⟨ao, cap, rfl, fun j x hx => ?_⟩
  obtain ⟨g, rfl, h1⟩ := hc j x hx
  exact ⟨g, rfl, cell_kept hb h1⟩

set_option maxRecDepth 100000 in
set_option maxHeartbeats 1600000 in
theorem gInts_any (l : List Int) (a b : Value) (w : World) (hl : l.length ≤ 100000) (ha : ReadR w a (l.map fun x => .int .i64 x)) (hb : ReadR w b (l.map fun x => .int .i64 x)) :
    Calls Tryz.prog 7 #[a, b] w fun e w' => e = .returned (.bool true) ∧ w' = w := by
  obtain ⟨ao, ca, rfl, ha⟩ := ha
  obtain ⟨bo, cb, rfl, hb⟩ := hb
  obtain ⟨n, hn⟩ : ∃ n, l.length = n := ⟨_, rfl⟩
  rw [List.length_map, hn]
  rw [hn] at hl
  have HA := Lib.hid ha
  have HB := Lib.hid hb
  have HN := Lib.hid hn
  clear ha hb hn
  go_enter Tryz.func7, Tryz.ntmps7
  go_wp2_with fail
  go_loopg [14] n (fun q iv wr => ∃ i : Nat, i + q = n ∧ iv = .int .i64 i ∧ wr = w)
  case atStart => exact ⟨0, by omega, rfl, rfl⟩
  case round =>
    obtain ⟨i, hi, rfl, rfl⟩ := hrel
    cases gk with
    | zero =>
      have hin : ¬ (i : Int) < (n : Int) := by omega
      go_wp2_with fail
      go_ret
      exact ⟨rfl, rfl⟩
    | succ q =>
      have hlt : (i : Int) < (n : Int) := by omega
      have hil : i < l.length := by rw [HN.out]; omega
      obtain ⟨ga, rfl, h1⟩ := HA.out i (.int .i64 (l[i]'hil)) (by rw [List.getElem?_map, List.getElem?_eq_getElem hil]; rfl)
      obtain ⟨gb, rfl, h2⟩ := HB.out i (.int .i64 (l[i]'hil)) (by rw [List.getElem?_map, List.getElem?_eq_getElem hil]; rfl)
      obtain ⟨x, hx⟩ : ∃ x, l[i]'hil = x := ⟨_, rfl⟩
      rw [hx] at h1 h2
      clear hx HA HB
      go_wp2_with fail
      go_roundg q
      case measure => omega
      case rel => exact ⟨i + 1, by omega, by go_num, rfl⟩

@[go_sem] theorem call_f64bits (args : Array Value) (w : World) : (callFunc 17 args).run Tryz.prog w = ((Extern.MathFloatBits.float64bits args).run Tryz.prog w).andThen fun v w' => .ok (.value v) w' :=
  run_callFunc_extern Tryz.func17 (by kernel_rfl) (by kernel_rfl) (by kernel_rfl) (by kernel_rfl) args w
@[go_sem] theorem f64bits_run (b : Nat) (w : World) : (Extern.MathFloatBits.float64bits #[.float .f64 b]).run Tryz.prog w = .ok (.int .u64 b) w := rfl

set_option maxRecDepth 100000 in
set_option maxHeartbeats 1600000 in
theorem sameFloats_any (l : List Nat) (a b : Value) (w : World) (hl : l.length ≤ 100000) (ha : ReadR w a (l.map fun x => .float .f64 x)) (hb : ReadR w b (l.map fun x => .float .f64 x)) :
    Calls Tryz.prog 8 #[a, b] w fun e w' => e = .returned (.bool true) ∧ Below w.heap.size w w' := by
  obtain ⟨ao, ca, rfl, ha⟩ := ha
  obtain ⟨bo, cb, rfl, hb⟩ := hb
  obtain ⟨n, hn⟩ : ∃ n, l.length = n := ⟨_, rfl⟩
  rw [List.length_map, hn]
  rw [hn] at hl
  have HA := Lib.hid ha
  have HB := Lib.hid hb
  have HN := Lib.hid hn
  clear ha hb hn
  go_enter Tryz.func8, Tryz.ntmps8
  go_wp2_with fail
  go_loopg [14] n (fun q iv wr => ∃ i : Nat, i + q = n ∧ iv = .int .i64 i ∧ Below w.heap.size w wr)
  case atStart => exact ⟨0, by omega, rfl, Below.refl _ _⟩
  case round =>
    obtain ⟨i, hi, rfl, hbel⟩ := hrel
    cases gk with
    | zero =>
      have hin : ¬ (i : Int) < (n : Int) := by omega
      have HBL := Lib.hid hbel
      clear hbel
      go_wp2_with fail
      go_ret
      exact ⟨rfl, HBL.out⟩
    | succ q =>
      have hlt : (i : Int) < (n : Int) := by omega
      have hil : i < l.length := by rw [HN.out]; omega
      obtain ⟨ga, rfl, h1⟩ := HA.out i (.float .f64 (l[i]'hil)) (by rw [List.getElem?_map, List.getElem?_eq_getElem hil]; rfl)
      obtain ⟨gb, rfl, h2⟩ := HB.out i (.float .f64 (l[i]'hil)) (by rw [List.getElem?_map, List.getElem?_eq_getElem hil]; rfl)
      obtain ⟨x, hx⟩ : ∃ x, l[i]'hil = x := ⟨_, rfl⟩
      rw [hx] at h1 h2
      have h1' := cell_kept hbel h1
      have h2' := cell_kept hbel h2
      have HBL := Lib.hid hbel
      clear hx HA HB h1 h2 hbel
      go_wp2_with fail
      go_quiet (fail)
      go_wp2_with fail
      go_roundg q
      case measure => omega
      case rel => exact ⟨i + 1, by omega, by go_num, Below.drewN HBL.out _⟩

/-- A truth value, and what it says where it is true. -/
def SaysE (p : Prop) (e : Ending) : Prop := ∃ b : Bool, e = .returned (.bool b) ∧ (b = true → p)

set_option maxRecDepth 100000 in
set_option maxHeartbeats 1600000 in
theorem askedWKT_any (S : ByteArray) (w : World) (hz : S.size ≤ 2147483647) :
    Calls Tryz.prog 9 #[.string S] w fun e w' => SaysE (∀ i, i < S.size → 1 ≤ ch S i ∧ ch S i ≤ 127) e ∧ w' = w := by
  obtain ⟨n, hn⟩ : ∃ n, S.size = n := ⟨_, rfl⟩
  go_enter Tryz.func9, Tryz.ntmps9
  go_wp2_with fail
  go_loopg [3] n (fun q iv wr => ∃ i : Nat, i + q = n ∧ iv = .int .i64 i ∧ (∀ k, k < i → 1 ≤ ch S k ∧ ch S k ≤ 127) ∧ wr = w)
  case atStart => exact ⟨0, by omega, rfl, fun k hk => by omega, rfl⟩
  case round =>
    obtain ⟨i, hi, rfl, hal, rfl⟩ := hrel
    have HAL := Lib.hid hal
    clear hal
    cases gk with
    | zero =>
      have hin : ¬ (i : Int) < (S.size : Int) := by omega
      have hie : i = S.size := by omega
      go_wp2_with fail
      go_ret
      exact ⟨⟨true, rfl, fun _ k hk => HAL.out k (by omega)⟩, rfl⟩
    | succ q =>
      have hlt : (i : Int) < (S.size : Int) := by omega
      have hil : i < S.size := by omega
      have hcc := ch_eq S i hil
      have hc256 : (S[i]'hil).toNat < 256 := (S[i]'hil).toNat_lt
      obtain ⟨c, hc⟩ : ∃ c, ch S i = c := ⟨_, rfl⟩
      rw [hc] at hcc
      have hyi : ((S[i]'hil).toNat : Int) = c := by omega
      have HC := Lib.hid hc
      clear hc hcc
      by_cases h0 : c = 0
      · have hb0 : ((c : Int) == 0) = true := by rw [beq_iff_eq]; omega
        clear h0
        go_wp2_with fail
        go_ret
        exact ⟨⟨false, rfl, fun h => by cases h⟩, rfl⟩
      have hb0 : ((c : Int) == 0) = false := by rw [beq_eq_false_iff_ne]; omega
      by_cases h1 : 127 < c
      · have hb1 : (127 : Int) < (c : Int) := by omega
        go_wp2_with fail
        go_ret
        exact ⟨⟨false, rfl, fun h => by cases h⟩, rfl⟩
      · have hb1 : ¬ (127 : Int) < (c : Int) := by omega
        have HIN := Lib.hid (show 1 ≤ c ∧ c ≤ 127 by omega)
        clear h1 h0
        go_wp2_with fail
        go_roundg q
        case measure => omega
        case rel => exact ⟨i + 1, by omega, by go_num, fun k hk => (by
          rcases Nat.lt_or_ge k i with h | h
          · exact HAL.out k h
          · have : k = i := by omega
            subst this
            rw [HC.out]
            exact HIN.out), rfl⟩

set_option maxRecDepth 100000 in
theorem xAsked_any (S : ByteArray) (w : World) (hz : S.size ≤ 2147483647) :
    Calls Tryz.prog 4 #[.string S] w fun e w' => SaysE (Asc S) e ∧ w' = w := by
  have ha := askedWKT_any S w hz
  by_cases h : S.size ≤ 2000
  · have hi : (S.size : Int) ≤ 2000 := by omega
    go_enter Tryz.func4, Tryz.ntmps4
    go_wp2_with fail
    refine ha.mono ?_
    rintro en w1 ⟨⟨b, rfl, hb⟩, rfl⟩
    go_wp2_with fail
    go_ret
    exact ⟨⟨b, rfl, fun e => ⟨h, hb e⟩⟩, rfl⟩
  · have hi : ¬ (S.size : Int) ≤ 2000 := by omega
    go_enter Tryz.func4, Tryz.ntmps4
    go_wp2_with fail
    go_ret
    exact ⟨⟨false, rfl, fun e => by cases e⟩, rfl⟩
end Go.Proofs.YtodihpaabkplhaaGreatDoor

namespace Go.Proofs.YtodihpaabkplhaaGreatDoor
open Go.RowKit

/-- append of one element to a row of one's own, as one step of a region that draws. -/
theorem step_push {ops : Array Oper} {o : Oper} {a : Act} {w : World} {K : Act → World → Prop} {Q : Exit → Act → World → Prop} {E : Prop}
    (s x : Operand) (hg : o.guard = none) (el sl : TypeId) (sz bytes : Nat) (z : Value)
    (hop : o.op = Op.call { callee := Callee.builtin Builtin.append, args := #[s, x], argTypes := #[sl, sl] })
    (hinfo : (Tryz.prog.info? el).map (fun i => (i.zero, i.size, i.bytes)) = some (some z, sz, bytes)) (hu : Tryz.prog.underlying sl = some (.slice el)) (hzs : z.cells.size = sz) (hsz : 0 < sz) (hby : bytes ≤ 1000)
    (B : Nat) (v : Value) (n : Nat) (xs : List Value) (blk : Nat) (news : Array Value) (hn : news.size = sz) (hone : ∀ u ∈ news.toList, u.oneCell' = true) (hs : a.eval s = v) (hx : a.eval x = .slice (some ⟨blk, 0, none⟩) 1 1)
    (hh : w.heap[blk]? = some (.cells news el (0, 0))) (hown : w.ownsRow B el sz v n xs) (hl : n ≤ 100000) (hB : B ≤ w.heap.size)
    (hK : ∀ v' w', w'.ownsRow B el sz v' (n + 1) (xs ++ news.toList) → Grew B w v w' v' → K (a.put o.dst v') w') :
    if Region.wanted o (yielded ops a.tmps) = true then Oper.wp Tryz.prog o a w K Q else E := by
  have hw : Region.wanted o (yielded ops a.tmps) = true := by simp [Region.wanted, hg]
  rw [if_pos hw]
  obtain ⟨i0, hi, hz0, hz1, hz2⟩ := info_parts hinfo
  obtain ⟨v', w', hrun, h1, h2, h3, h4⟩ := run_append_own_at (P := Tryz.prog) w B sl o.type el i0 z sz bytes hu hi hz0 hz1 hz2 hzs hsz v n xs hown ⟨blk, 0, none⟩ 1 1 news.toList (by simp [hn])
    (fun j u hj => by rw [plain_add, Nat.zero_add, Lib.cell_of_heap hh]; simpa using hj) hone (by unfold maxLen; omega) (by have : (n + 1) * bytes ≤ 100001 * 1000 := Nat.mul_le_mul (by omega) hby; omega) hB
  unfold Oper.wp
  simp [execOp, hop, resolve, invoke, builtin, hs, hx, hrun, Result.andThen]
  refine hK v' w' h1 ⟨(Below.refl B w).grown h2 hB (fun k hk => (hown.lt k hk).1), fun b hb hne => ⟨h2.block b hb (fun e => hne e.symm), ?_⟩⟩
  rcases h4 with h4 | h4
  · rw [h4]; exact hne
  · rw [h4]
    simp
    omega

/-- Two rows of one's own, apart. -/
structure Two (B : Nat) (w0 : World) (kv : Value) (xs : List Value) (nv : Value) (ys : List Value) (w : World) : Prop where
  k : w.ownsRow B 3 1 kv xs.length xs
  n : w.ownsRow B 30 1 nv ys.length ys
  ne : ∀ c, kv.ownBlock = some c → nv.ownBlock ≠ some c
  bel : Below B w0 w
  sz : B ≤ w.heap.size
/-- A block beside them. -/
structure Side (kv nv : Value) (w : World) (b : Nat) (o : Obj) : Prop where
  here : w.heap[b]? = some o
  k : kv.ownBlock ≠ some b
  n : nv.ownBlock ≠ some b
theorem Two.alloc {B : Nat} {w0 w : World} {kv nv : Value} {xs ys : List Value} (h : Two B w0 kv xs nv ys w) (o : Obj) : Two B w0 kv xs nv ys (w.alloc o) :=
  ⟨h.k.alloc o, h.n.alloc o, h.ne, h.bel.alloc h.sz o, Nat.le_trans h.sz (by show _ ≤ (w.heap.push o).size; simp)⟩
theorem Side.lt {kv nv : Value} {w : World} {b : Nat} {o : Obj} (h : Side kv nv w b o) : b < w.heap.size := (Array.getElem?_eq_some_iff.1 h.here).1
theorem Side.alloc {kv nv : Value} {w : World} {b : Nat} {o : Obj} (h : Side kv nv w b o) (p : Obj) : Side kv nv (w.alloc p) b o :=
  ⟨(Below.heap_alloc w p b h.lt).trans h.here, h.k, h.n⟩
theorem Two.new {B : Nat} {w0 w : World} {kv nv : Value} {xs ys : List Value} (h : Two B w0 kv xs nv ys w) (o : Obj) : Side kv nv (w.alloc o) w.heap.size o :=
  ⟨heap_new w o, fun e => by have := (h.k.lt _ e).2; omega, fun e => by have := (h.n.lt _ e).2; omega⟩
theorem Two.pushK {B : Nat} {w0 w w' : World} {kv kv' nv x : Value} {xs ys : List Value} (h : Two B w0 kv xs nv ys w) (hx : w'.ownsRow B 3 1 kv' (xs.length + 1) (xs ++ [x])) (hg : Grew B w kv w' kv') : Two B w0 kv' (xs ++ [x]) nv ys w' :=
  ⟨by rw [List.length_append]; exact hx, own_heap h.n (fun c hc => (hg.block c (h.n.lt c hc).2 (fun e => h.ne c e hc)).1), fun c hc hc' => (hg.block c (h.n.lt c hc').2 (fun e => h.ne c e hc')).2 hc, h.bel.trans hg.below, Nat.le_trans h.sz hg.below.size⟩
theorem Side.pushK {B : Nat} {w w' : World} {kv kv' nv : Value} {b : Nat} {o : Obj} (h : Side kv nv w b o) (hg : Grew B w kv w' kv') : Side kv' nv w' b o :=
  ⟨(hg.block b h.lt h.k).1.trans h.here, (hg.block b h.lt h.k).2, h.n⟩
theorem Two.pushN {B : Nat} {w0 w w' : World} {kv nv nv' x : Value} {xs ys : List Value} (h : Two B w0 kv xs nv ys w) (hx : w'.ownsRow B 30 1 nv' (ys.length + 1) (ys ++ [x])) (hg : Grew B w nv w' nv') : Two B w0 kv xs nv' (ys ++ [x]) w' :=
  ⟨own_heap h.k (fun c hc => (hg.block c (h.k.lt c hc).2 (fun e => h.ne c hc e)).1), by rw [List.length_append]; exact hx, fun c hc => (hg.block c (h.k.lt c hc).2 (fun e => h.ne c hc e)).2, h.bel.trans hg.below, Nat.le_trans h.sz hg.below.size⟩
theorem Side.pushN {B : Nat} {w w' : World} {kv nv nv' : Value} {b : Nat} {o : Obj} (h : Side kv nv w b o) (hg : Grew B w nv w' nv') : Side kv nv' w' b o :=
  ⟨(hg.block b h.lt h.n).1.trans h.here, h.k, (hg.block b h.lt h.n).2⟩

theorem Side.cell4 {kv nv : Value} {w : World} {b : Nat} {c0 c1 c2 c3 x : Value} {T : TypeId} (h : Side kv nv w b (.cells #[c0, c1, c2, c3, x] T)) : w.cell? ⟨b, 4, none⟩ = some x := by rw [Lib.cell_of_heap h.here]; rfl
theorem Two.new1 {B : Nat} {w0 w : World} {kv nv : Value} {xs ys : List Value} {o : Obj} (h : Two B w0 kv xs nv ys (w.alloc o)) (p : Obj) : Side kv nv ((w.alloc o).alloc p) (w.heap.size + 1) p := by
  have e : (w.alloc o).heap.size = w.heap.size + 1 := by show (w.heap.push o).size = _; simp
  rw [← e]
  exact h.new p

/-- What a token of a text is like. -/
structure WdOk (d : Wd) : Prop where
  sign : d.sign ≤ 127
  kind : d.kind ≤ 7
  lay : d.lay ≤ 4
theorem named_ok {l : List UInt8} {d : Wd} (h : named l = some d) : WdOk d := by
  unfold named at h
  split at h
  · cases h
    exact ⟨by decide, by decide, by decide⟩
  · cases hf : pairsN.find? (fun p => l == nameN p.1 p.2) with
    | none => rw [hf] at h; cases h
    | some p =>
      rw [hf] at h
      cases h
      have hq : ∀ p ∈ pairsN, p.1 ≤ 7 ∧ p.2 ≤ 4 := by decide +kernel
      obtain ⟨h1, h2⟩ := hq p (List.mem_of_find?_eq_some hf)
      exact ⟨Nat.zero_le _, h1, h2⟩
theorem run_ok {pf : ByteArray → Option Nat} {S : ByteArray} {i : Nat} {r : Option (List Wd)} (h : Run pf S i r) : ∀ l, r = some l → l.length + i ≤ S.size ∧ ∀ d ∈ l, WdOk d := by
  induction h with
  | done h =>
    intro l hl
    cases hl
    exact ⟨by simp; omega, by simp⟩
  | blank h1 _ _ ih =>
    intro l hl
    obtain ⟨h2, h3⟩ := ih l hl
    exact ⟨by omega, h3⟩
  | sign h1 hs _ ih =>
    intro l hl
    rename_i i r _
    cases r with
    | none => cases hl
    | some l0 =>
      cases hl
      obtain ⟨h2, h3⟩ := ih l0 rfl
      refine ⟨by simp; omega, fun d hd => ?_⟩
      rcases List.mem_cons.1 hd with rfl | hd
      · exact ⟨by show ch S i ≤ 127; unfold signN at hs; omega, Nat.zero_le _, Nat.zero_le _⟩
      · exact h3 d hd
  | empty h1 hs he _ _ ih =>
    intro l hl
    rename_i i e r _ _
    have hie := he.lt h1 hs
    cases r with
    | none => cases hl
    | some l0 =>
      cases hl
      obtain ⟨h2, h3⟩ := ih l0 rfl
      refine ⟨by simp; omega, fun d hd => ?_⟩
      rcases List.mem_cons.1 hd with rfl | hd
      · exact ⟨by decide, by decide, by decide⟩
      · exact h3 d hd
  | name h1 hs he _ hk hn _ ih =>
    intro l hl
    rename_i i e k d0 r _ _
    have hie := he.lt h1 hs
    have hek := hk.le
    have hkm := mEnd_ge S k
    cases r with
    | none => cases hl
    | some l0 =>
      cases hl
      obtain ⟨h2, h3⟩ := ih l0 rfl
      refine ⟨by simp; omega, fun d hd => ?_⟩
      rcases List.mem_cons.1 hd with rfl | hd
      · exact named_ok hn
      · exact h3 d hd
  | nameBad => intro l hl; cases hl
  | num h1 hs he _ _ ih =>
    intro l hl
    rename_i i e x r _ _
    have hie := he.lt h1 (fst_num hs)
    cases r with
    | none => cases hl
    | some l0 =>
      cases hl
      obtain ⟨h2, h3⟩ := ih l0 rfl
      refine ⟨by simp; omega, fun d hd => ?_⟩
      rcases List.mem_cons.1 hd with rfl | hd
      · exact ⟨show 35 ≤ 127 by decide, Nat.zero_le _, Nat.zero_le _⟩
      · exact h3 d hd
  | numBad => intro l hl; cases hl
  | bad => intro l hl; cases hl

/-- POINT is one token. -/
theorem asc_point : Asc ⟨#[80, 79, 73, 78, 84]⟩ := by
  refine ⟨by decide, fun i hi => ?_⟩
  have hi5 : i < 5 := hi
  rcases (show i = 0 ∨ i = 1 ∨ i = 2 ∨ i = 3 ∨ i = 4 by omega) with rfl | rfl | rfl | rfl | rfl <;> decide
theorem run_point (pf : ByteArray → Option Nat) : Run pf ⟨#[80, 79, 73, 78, 84]⟩ 0 (some [⟨0, 1, 0, false, 0⟩]) := by
  have h := Run.name (pf := pf) (S := ⟨#[80, 79, 73, 78, 84]⟩) (i := 0) (e := 5) (k := 5) (d := ⟨0, 1, 0, false, 0⟩) (r := some []) (by decide) (by decide)
    ⟨by decide, by decide, fun k _ hk => by rcases (show k = 0 ∨ k = 1 ∨ k = 2 ∨ k = 3 ∨ k = 4 by omega) with rfl | rfl | rfl | rfl | rfl <;> decide, Or.inl (by decide)⟩ (by decide) ⟨by decide, by decide, fun k h1 h2 => by omega, Or.inl (by decide)⟩ (by decide +kernel)
    (Run.done (by decide))
  exact h
end Go.Proofs.YtodihpaabkplhaaGreatDoor
