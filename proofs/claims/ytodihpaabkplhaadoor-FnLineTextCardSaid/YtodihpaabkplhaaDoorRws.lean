/- append of one element of any size; spec.Rows. -/
import Derived.Test.YtodihpaabkplhaaDoorJoi
import Derived.Deep.DeepCutAuto
import Derived.Laws.OwnMore
namespace Go.Proofs.YtodihpaabkplhaaDoor
open Go.RowKit

/-- Some cells that lie in a block of their own. -/
theorem news_new (w : World) (cs : Array Value) (t : TypeId) : ∀ j u, cs.toList[j]? = some u → (w.alloc (.cells cs t)).cell? ((⟨w.heap.size, 0, none⟩ : Addr).add j) = some u := by
  intro j u hj
  have e : ((⟨w.heap.size, 0, none⟩ : Addr).add j) = ⟨w.heap.size, j, none⟩ := by
    unfold Addr.add
    split
    · rename_i h0; rw [h0]
    · simp
  rw [e]
  have h := Box.new w t cs
  rw [h.cell j]
  simpa using hj

/-- 'append(v, x)' of one element, which has been laid into a block of its own first. -/
theorem wpList_pushN {ops : Array Oper} {rest : List Oper} {o : Oper} {a : Act} {Q : Exit → Act → World → Prop} (s x : Operand) (ts te : TypeId) (z : Value) (size bytes : Nat) (hgd : o.guard = none)
    (ho : o.op = .call { callee := .builtin .append, args := #[s, x], argTypes := #[ts, ts] })
    (ht : Tryd.prog.underlying ts = some (.slice te)) (hinf : (Tryd.prog.info? te).map (fun i => (i.zero, i.size, i.bytes)) = some (some z, size, bytes)) (hzs : z.cells.size = size) (hsz : 0 < size)
    (B : Nat) (v : Value) (n : Nat) (xs : List Value) (cs : Array Value) (W : World) (hs : a.eval s = v) (hx : a.eval x = .slice (some ⟨W.heap.size, 0, none⟩) 1 1) (hcs : cs.size = size) (h1 : ∀ u ∈ cs.toList, u.oneCell' = true)
    (hown : W.ownsRow B te size v n xs) (h63 : n + 1 ≤ maxLen) (hbytes : (n + 1) * bytes ≤ 140737488355328) (hB : B ≤ W.heap.size)
    (h : ∀ v' w', w'.ownsRow B te size v' (n + 1) (xs ++ cs.toList) → Below B W w' → (∀ b, b < W.heap.size → v.ownBlock ≠ some b → w'.heap[b]? = W.heap[b]?) → (∃ g cap, v' = .slice (some ⟨g, 0, none⟩) (n + 1) cap ∧ (v.ownBlock = some g ∨ W.heap.size < g)) → wpList Tryd.prog ops Q rest (a.put o.dst v') w') :
    wpList Tryd.prog ops Q (o :: rest) a (W.alloc (.cells cs te)) := by
  obtain ⟨i0, hi, hz0, hz1, hz2⟩ := info_parts hinf
  refine wpList_append_own_at (P := Tryd.prog) (w := W.alloc (.cells cs te)) hgd s x ts ho B te i0 z size bytes ht hi hz0 hz1 hz2 hzs hsz v n xs hs (hown.alloc _) ⟨W.heap.size, 0, none⟩ 1 1 cs.toList hx (by simpa using hcs) (news_new _ _ _) h1 h63 hbytes (by simp; omega) ?_
  intro v' w' h1 h2 h3 h4
  refine h v' w' h1 ?_ ?_ ?_
  · exact ((Below.refl B W).alloc hB _).grown h2 (by simp; omega) (fun k hk => (hown.lt k hk).1)
  · intro b hb hne
    have e : (W.alloc (.cells cs te)).heap[b]? = W.heap[b]? := Below.heap_alloc W _ b hb
    exact (h2.block b (by simp; omega) (fun e => hne e.symm)).trans e
  · have hv0 : ∃ g cap, v' = .slice (some ⟨g, 0, none⟩) (n + 1) cap := by
      rcases h1.2 with ⟨_, h0⟩ | ⟨g, cap, _, hv, _⟩
      · omega
      · exact ⟨g, cap, hv⟩
    obtain ⟨g, cap, hv⟩ := hv0
    refine ⟨g, cap, hv, ?_⟩
    rcases h4 with h4 | h4
    · left
      rw [← h4, hv]
      rfl
    · right
      rw [hv] at h4
      simp [Value.ownBlock] at h4
      omega

theorem info_row : (Tryd.prog.info? 22).map (fun i => (i.zero, i.size, i.bytes)) = some (some (.slice none 0 0), 1, 24) := by kernel_rfl

/-- The rows of a row. -/
def rowsL (blk off s cap : Nat) (k : Nat) : List Value := (List.range k).map fun i => .slice (some ⟨blk, off + i * s, none⟩) s (cap - i * s)
theorem rowsL_succ (blk off s cap k : Nat) : rowsL blk off s cap (k + 1) = rowsL blk off s cap k ++ [.slice (some ⟨blk, off + k * s, none⟩) s (cap - k * s)] := by
  unfold rowsL
  rw [List.range_succ, List.map_append]
  rfl
theorem rowsL_get (blk off s cap k i : Nat) (hi : i < k) : (rowsL blk off s cap k)[i]? = some (.slice (some ⟨blk, off + i * s, none⟩) s (cap - i * s)) := by
  unfold rowsL
  simp [hi]

/-- A value that owns a row. -/
def OwnV (w : World) (B : Nat) (te : TypeId) (size : Nat) (v : Value) (n : Nat) (xs : List Value) : Prop := w.ownsRow B te size v n xs

set_option maxRecDepth 100000 in
set_option maxHeartbeats 1600000 in
theorem rows_any (blk off n k s cap : Nat) (w : World) (hn : n = k * s) (hs : 1 ≤ s) (hcap : n ≤ cap) (hcm : n ≤ 100000) (hs9 : s ≤ 100000) :
    Calls Tryd.prog 12 #[.slice (some ⟨blk, off, none⟩) n cap, .int .i64 s] w fun en w' => ∃ v, en = .returned v ∧ OwnV w' w.heap.size 22 1 v k (rowsL blk off s cap k) ∧ Below w.heap.size w w' := by
  obtain ⟨B, hBe⟩ : ∃ B, w.heap.size = B := ⟨_, rfl⟩
  rw [hBe]
  have HBe := Lib.hid hBe
  have HN := Lib.hid hn
  have hkn : k ≤ n := by rw [hn]; exact Nat.le_mul_of_pos_right k hs
  have HK := Lib.hid hkn
  have hs0 : (0 : Int) < (s : Int) := by omega
  have hnI : (n : Int) ≤ 100000 := by omega
  have hsI : (s : Int) ≤ 100000 := by omega
  have hs0' : 0 < s := by omega
  clear hn hBe hkn
  go_enter Tryd.func12, Tryd.ntmps12
  go_wp2_with fail
  go_loopg [6, 5] k (fun m v6 v5 wr => ∃ (q : Nat) (ao : Option Addr) (c : Nat), q + m = k ∧ v6 = .int .i64 ((q * s : Nat) : Int) ∧ v5 = .slice ao q c ∧ OwnV wr B 22 1 (.slice ao q c) q (rowsL blk off s cap q) ∧ Below B w wr)
  case atStart => exact ⟨0, none, 0, by omega, by simp, rfl, World.ownsRow_nil _ _ _ _, Below.refl _ _⟩
  case round =>
    obtain ⟨q, ao, c, hq, rfl, rfl, hown, hB⟩ := hrel
    obtain ⟨i, hi⟩ : ∃ i, q * s = i := ⟨_, rfl⟩
    rw [hi]
    have HI := Lib.hid hi
    cases gk with
    | zero =>
      have hin : n = i := by rw [HN.out, ← hi]; congr 1; omega
      have hlt : (n : Int) < (i : Int) + (s : Int) := by omega
      have hlt2 : ¬ (i : Int) + (s : Int) ≤ (n : Int) := by omega
      have hiI : (i : Int) ≤ 100000 := by omega
      have hqk : q = k := by omega
      have HQ := Lib.hid hqk
      clear hin hi hqk
      go_wp2_with fail
      go_ret
      exact ⟨_, rfl, by rw [← HQ.out]; exact hown, hB⟩
    | succ m =>
      have hin : i + s ≤ n := by
        have h1 : (q + 1) * s ≤ k * s := Nat.mul_le_mul_right s (by omega)
        have h2 := HN.out
        rw [Nat.succ_mul, hi] at h1
        omega
      have his : (i : Int) + (s : Int) ≤ (n : Int) := by omega
      have hic : (i : Int) + (s : Int) ≤ (cap : Int) := by omega
      have hne : ¬ cap = i := by omega
      have hbw : B ≤ wr.heap.size := by have := HBe.out; have := hB.size; omega
      have hown2 : wr.ownsRow B 22 1 (.slice ao q c) q (rowsL blk off s cap q) := hown
      have hq9 : q ≤ 100000 := by have := HK.out; omega
      have HQ9 := Lib.hid hq9
      clear hi hin hq9 hown
      go_wp2_with (at_builtin; refine wpList_pushN _ _ 36 22 (.slice none 0 0) 1 24 rfl rfl Tryd.underlying36 info_row rfl (by decide) B (.slice ao q c) q (rowsL blk off s cap q) _ _ rfl rfl rfl ?h1 hown2 ?h63 ?hb hbw ?_)
      case h1 => first | rfl | (intro u hu; simp at hu; subst hu; rfl)
      case h63 => have := HQ9.out; unfold maxLen; omega
      case hb => have := HQ9.out; omega
      intro v' w' hown' hB' _ g c' hv _
      subst hv
      have hBB := hB.trans hB'
      have hle : i + s = (q + 1) * s := by rw [Nat.succ_mul, HI.out]
      have HLE := Lib.hid hle
      clear hle hB hB' hown2
      go_wp2_with fail
      go_roundg m
      case measure => omega
      case rel => exact ⟨q + 1, some ⟨g, 0, none⟩, c', by omega, by rw [← HLE.out]; rfl, rfl, by rw [rowsL_succ, HI.out]; exact hown', hBB⟩
end Go.Proofs.YtodihpaabkplhaaDoor
