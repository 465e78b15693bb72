/- writeCoord: a place's numbers with blanks between them. -/
import Derived.Test.YtodihpaabkplhaaDoorTrm
import Derived.Deep.DeepCutAuto
namespace Go.Proofs.YtodihpaabkplhaaDoor
open Go.RowKit

theorem extract_size (S : ByteArray) (n : Nat) (h : n ≤ S.size) : (S.extract 0 n).size = n := by
  simp [ByteArray.size_extract]; omega
theorem extract_data (S : ByteArray) (n k : Nat) (hk : k < n) (h : n ≤ S.size) : (S.extract 0 n).data[k]? = S.data[k]? := by
  have e : (S.extract 0 n).data = S.data.extract 0 n := by simp
  rw [e, Array.getElem?_extract]
  simp
  have : n ≤ S.data.size := h
  omega
theorem tailS_extract (S : ByteArray) (c : UInt8) (n : Nat) (h : n ≤ S.size) : ∀ k, k ≤ n → tailS (S.extract 0 n) c k = tailS S c k
  | 0, _ => rfl
  | k + 1, hk => by
    rw [tailS, tailS, extract_data S n k (by omega) h, tailS_extract S c n h k (by omega)]
theorem extract_extract (S : ByteArray) (n m : Nat) (h : m ≤ n) : (S.extract 0 n).extract 0 m = S.extract 0 m := by
  rw [ByteArray.extract_extract]
  congr 1
  omega

theorem str_size (l : List UInt8) : (str l).size = l.length := by show l.toArray.size = _; simp
/-- What the two trims leave. -/
theorem trim_eq (x : Nat) (digits : Int) (p0 : 0 < digits) (p1 : digits ≤ 20) (S : ByteArray) (hS : S = str (ftoaF x digits)) :
    ((S.extract 0 (tailS S 48 S.size)).extract 0 (tailS (S.extract 0 (tailS S 48 S.size)) 46 (S.extract 0 (tailS S 48 S.size)).size)) = numText x digits := by
  have hle := tailS_le S 48 S.size
  rw [extract_size S _ hle, tailS_extract S 46 _ hle _ (Nat.le_refl _), extract_extract S _ _ (tailS_le _ _ _)]
  have h1 : impLen S = numLen S := impLen_eq S (fun i j hi hj => by
    have hp := ftoaF_onePt x digits p0 p1
    subst hS
    refine hp i j ?_ ?_
    · have e : (str (ftoaF x digits)).data = (ftoaF x digits).toArray := rfl
      rw [e, List.getElem?_toArray] at hi
      exact hi
    · have e : (str (ftoaF x digits)).data = (ftoaF x digits).toArray := rfl
      rw [e, List.getElem?_toArray] at hj
      exact hj)
  unfold impLen at h1
  rw [h1]
  unfold numText
  rw [if_neg (by omega), hS]
theorem numText_size (x : Nat) (digits : Int) (p0 : -1 ≤ digits) (p1 : digits ≤ 20) : (numText x digits).size ≤ 20003 := by
  have h := ftoaF_length x digits p0 p1
  unfold numText
  split
  · rw [str_size]; exact h
  · rw [ByteArray.size_extract, str_size]; omega

def numB (x : Nat) (digits : Int) : List UInt8 := (numText x digits).data.toList
theorem numB_str (x : Nat) (digits : Int) : str (numB x digits) = numText x digits := by
  unfold str numB
  simp
theorem numB_length (x : Nat) (digits : Int) (p0 : -1 ≤ digits) (p1 : digits ≤ 20) : (numB x digits).length ≤ 20003 := by
  have := numText_size x digits p0 p1
  unfold numB
  rw [Array.length_toList]
  exact this
/-- The first i numbers, with blanks between them. -/
def coordB (xs : Nat → Nat) (digits : Int) : Nat → List UInt8
  | 0 => []
  | i + 1 => coordB xs digits i ++ (if i = 0 then [] else [32]) ++ numB (xs i) digits
theorem coordB_length (xs : Nat → Nat) (digits : Int) (p0 : -1 ≤ digits) (p1 : digits ≤ 20) : ∀ i, (coordB xs digits i).length ≤ i * 20004
  | 0 => by simp [coordB]
  | i + 1 => by
    have h1 := coordB_length xs digits p0 p1 i
    have h2 := numB_length (xs i) digits p0 p1
    have h3 : (if i = 0 then ([] : List UInt8) else [32]).length ≤ 1 := by split <;> simp
    rw [coordB, List.length_append, List.length_append]
    omega

/-- Numbers in a row in memory. -/
def FRow (w : World) (blk off n : Nat) (xs : Nat → Nat) : Prop := ∀ i, i < n → w.cell? ⟨blk, off + i, none⟩ = some (.float .f64 (xs i)) ∧ xs i < 18446744073709551616
/-- The encoder. -/
def EncAt (w : World) (e : Nat) (digits : Int) : Prop := w.heap[e]? = some (.cells #[.int .i64 digits] 75 (0, 0))
theorem EncAt.cell {w : World} {e : Nat} {digits : Int} (h : EncAt w e digits) : w.cell? ⟨e, 0, none⟩ = some (.int .i64 digits) := by
  rw [Lib.cell_of_heap h]; rfl
theorem EncAt.kept {w w' : World} {e b : Nat} {digits : Int} (h : EncAt w e digits) (hk : Kept b w w') (hb : e ≠ b) : EncAt w' e digits := hk e _ _ _ hb (by decide) h
theorem FRow.cell {W w : World} {blk off n : Nat} {xs : Nat → Nat} (h : FRow W blk off n xs) (hb : Below W.heap.size W w) {i : Nat} (hi : i < n) : w.cell? ⟨blk, off + i, none⟩ = some (.float .f64 (xs i)) := cell_kept hb (h i hi).1


theorem bldAt_below {T : TypeId} {B b : Nat} {p : Value} {bs : List Value} {w w' : World} (h : Lib.BuilderAt T 5 B b p bs w) (hb : Below w.heap.size w w') : Lib.BuilderAt T 5 B b p bs w' := by
  obtain ⟨hB, v, hbk, hown, hne⟩ := h
  refine ⟨hB, v, (hb.block b (heap_lt hbk)).trans hbk, ?_, hne⟩
  refine ⟨hown.1, ?_⟩
  rcases hown.2 with ⟨e, n⟩ | ⟨g, cap, cur, e, hBg, hg, h4⟩
  · exact Or.inl ⟨e, n⟩
  · exact Or.inr ⟨g, cap, cur, e, hBg, (hb.block g (heap_lt hg)).trans hg, h4⟩

set_option maxRecDepth 100000 in
set_option maxHeartbeats 800000 in
theorem writeCoord_any (cb co b e blk off n cap : Nat) (l : List UInt8) (xs : Nat → Nat) (digits : Int) (W w : World) (T : Tabs cb co W) (hW : Below W.heap.size W w) (hb : Bld w W.heap.size b l) (he : EncAt w e digits) (heb : e ≠ b) (hr : FRow W blk off n xs)
    (p0 : -1 ≤ digits) (p1 : digits ≤ 20) (hlen : l.length + n * 20004 ≤ 100000000) :
    Calls Tryd.prog 47 #[.pointer (some ⟨e, 0, none⟩), .pointer (some ⟨b, 0, none⟩), .slice (some ⟨blk, off, none⟩) n cap] w fun en w' => en = .returned .nilIface ∧ Bld w' W.heap.size b (l ++ coordB xs digits n) ∧ Below W.heap.size w w' ∧ Kept b w w' := by
  obtain ⟨B, hBe⟩ : ∃ B, W.heap.size = B := ⟨_, rfl⟩
  have HLen := Lib.hid hlen
  clear hlen
  have HT := Lib.hid T
  have HR := Lib.hid hr
  have HW := Lib.hid hW
  clear T hr hW
  rw [hBe] at hb ⊢
  go_enter Tryd.func47, Tryd.ntmps47
  go_wp2_with fail
  go_loopg [16] n (fun m v wr => ∃ i : Nat, i + m = n ∧ v = .int .i64 i ∧ Bld wr B b (l ++ coordB xs digits i) ∧ Below B w wr ∧ Kept b w wr)
  case atStart => exact ⟨0, by omega, rfl, by simpa [coordB] using hb, Below.refl _ _, Kept.refl _ _⟩
  case round =>
    clear hb
    obtain ⟨i, hi, rfl, hb, hB, hk⟩ := hrel
    cases gk with
    | zero =>
      have hin : i = n := by omega
      subst hin
      go_wp2
      go_ret
      exact ⟨rfl, hb, hB, hk⟩
    | succ m =>
      have hWr : Below W.heap.size W wr := HW.out.trans (hBe ▸ hB)
      have hBs : B ≤ wr.heap.size := hBe ▸ hWr.size
      have cx := HR.out.cell hWr (show i < n by omega)
      have hx64 := (HR.out i (by omega)).2
      have hin : i < n := by omega
      have hl1 := coordB_length xs digits p0 p1 i
      have hl2 : i * 20004 + 20004 ≤ n * 20004 := by omega
      obtain ⟨x, hx⟩ : ∃ x, xs i = x := ⟨_, rfl⟩
      rw [hx] at cx hx64
      have hc1 : coordB xs digits (i + 1) = coordB xs digits i ++ (if i = 0 then [] else [32]) ++ numB x digits := by rw [coordB, hx]
      have HC := Lib.hid hc1
      have heN := he.kept hk heb
      obtain ⟨L, hL⟩ : ∃ L, l ++ coordB xs digits i = L := ⟨_, rfl⟩
      have hLl : L.length + 20004 ≤ 100000000 := by have := HLen.out; rw [← hL, List.length_append]; omega
      have HLl := Lib.hid hLl
      rw [hL] at hb
      have HLL := Lib.hid hL
      clear hc1 hx hL hl1 hl2 hLl
      go_upto_if 22 with fail
      go_cut [] (fun wx => Bld wx B b (L ++ (if i = 0 then [] else [32])) ∧ Below B wr wx ∧ Kept b wr wx)
      case first =>
        by_cases h0 : i = 0
        · subst h0
          have z0 : ((0 : Nat) : Int) = 0 := rfl
          rw [z0]
          clear z0
          go_wp2
          go_meet
          exact ⟨by simpa using hb, Below.refl _ _, Kept.refl _ _⟩
        · have h1 : ((i : Int) == 0) = false := by rw [beq_eq_false_iff_ne]; omega
          have hwr := writeRune_any B b L 32 wr (by decide) hb (by have := HLl.out; omega) hBs
          clear hb hB hk heN cx
          go_wp2_with fail
          refine hwr.mono ?_
          rintro en w2 ⟨rfl, hb2, hB2, hk2⟩
          clear hwr
          go_wp2
          go_meet
          refine ⟨?_, hB2, hk2⟩
          rw [if_neg h0]
          exact hb2
      case rest =>
        obtain ⟨hb2, hB2, hk2⟩ := hcut
        rename_i K hK
        refine hK _ _ ?_
        clear hK hb
        have heC := (heN.kept hk2 heb).cell
        have hWc : Below W.heap.size W wc := hWr.trans (hBe ▸ hB2)
        have hf := format_any cb co x digits wc (HT.out.below hWc) hx64 p0 p1
        obtain ⟨L2, hL2⟩ : ∃ L2, L ++ (if i = 0 then ([] : List UInt8) else [32]) = L2 := ⟨_, rfl⟩
        have hLl2 : L2.length + 20003 ≤ 100000000 := by
          have h0 := HLl.out
          rw [← hL2, List.length_append]
          have : (if i = 0 then ([] : List UInt8) else [32]).length ≤ 1 := by split <;> simp
          omega
        have HLl2 := Lib.hid hLl2
        clear hLl2
        rw [hL2] at hb2
        have HL2 := Lib.hid hL2
        clear hL2
        change Calls _ _ _ _ fun en w' => en = .returned (.string (str (ftoaF x digits))) ∧ _ at hf
        obtain ⟨S, hS⟩ : ∃ S, str (ftoaF x digits) = S := ⟨_, rfl⟩
        rw [hS] at hf
        have HS := Lib.hid hS
        clear hS
        go_wp2_with fail
        refine hf.mono ?_
        rintro en w2 ⟨rfl, hB3⟩
        clear hf
        have heE := ((heN.kept hk2 heb).kept (Kept.below (b := b) hB3) heb)
        have hSs : S.size ≤ 20003 := by rw [← HS.out, str_size]; exact ftoaF_length x digits p0 p1
        have hb3 : Bld w2 B b L2 := by
          rcases hb2 with h | h
          · exact Or.inl (bldAt_below h hB3)
          · exact Or.inr (bldAt_below h hB3)
        have hBw : Below B w w2 := (hB.trans hB2).trans (hB3.mono (Nat.le_trans hBs hB2.size))
        have hkw : Kept b w w2 := (hk.trans hk2).trans (Kept.below hB3)
        have hBs2 : B ≤ w2.heap.size := Nat.le_trans hBs (Nat.le_trans hB2.size hB3.size)
        have hce := heE.cell
        clear heC hB hB2 hB3 hk hk2 hb2 heN cx hWr hWc
        go_upto_if 41 with fail
        go_cut [11] (fun v wx => v = .string (numText x digits) ∧ ∃ n, wx = w2.drewN n)
        case first =>
          by_cases hd : 0 < digits
          · have ht1 := trimRight_any S 48 w2 (by omega)
            have hn1 : (S.extract 0 (tailS S 48 S.size)).size ≤ 1000000 := by
              rw [extract_size S _ (tailS_le _ _ _)]
              have := tailS_le S 48 S.size
              omega
            have hte := trim_eq x digits hd p1 S HS.out.symm
            obtain ⟨S1, hS1⟩ : ∃ S1, S.extract 0 (tailS S 48 S.size) = S1 := ⟨_, rfl⟩
            rw [hS1] at ht1 hn1 hte
            have ht2 := fun w' => trimRight_any S1 46 w' hn1
            rw [hte] at ht2
            clear hS1 hte hn1
            go_wp2_with fail
            refine ht1.mono ?_
            rintro en w3 ⟨rfl, n3, rfl⟩
            go_wp2_with fail
            refine (ht2 _).mono ?_
            rintro en w4 ⟨rfl, n4, rfl⟩
            go_wp2
            go_meet
            exact ⟨rfl, _, rfl⟩
          · have hnt : numText x digits = S := by
              rw [← HS.out]
              unfold numText
              rw [if_pos (by omega)]
            have HN := Lib.hid hnt
            clear hnt
            go_wp2
            go_meet
            exact ⟨by rw [HN.out], 0, rfl⟩
        case rest =>
          obtain ⟨rfl, n4, rfl⟩ := hcut
          rename_i K2 hK2
          refine hK2 _ _ ?_
          clear hK2 hce
          have hws := writeString_any B b L2 (numB x digits) (w2.drewN n4) (by exact hb3) (by have := HLl2.out; have := numB_length x digits p0 p1; omega) hBs2
          change Calls _ _ #[_, .string (str (numB x digits))] _ _ at hws
          rw [numB_str] at hws
          clear hb3 heE
          go_wp2_with fail
          refine hws.mono ?_
          rintro en w5 ⟨rfl, hb5, hB5, hk5⟩
          have hi9 : (i : Int) < 10000 := by have := HLen.out; omega
          go_wp2
          go_roundg m
          case measure => omega
          case rel =>
            refine ⟨i + 1, by omega, rfl, ?_, hBw.trans ((Below.drewN (Below.refl _ _) _).trans hB5), hkw.trans (Kept.trans (Kept.below (Below.drewN (Below.refl _ _) _)) hk5)⟩
            rw [HC.out, ← List.append_assoc, ← List.append_assoc, HLL.out, HL2.out]
            exact hb5
end Go.Proofs.YtodihpaabkplhaaDoor
