/- ftoa64: the text of a float64 for 'f': what it is as a plain function; its easy ways. -/
import Derived.Test.YtodihpaabkplhaaDoorEfg
import Derived.Test.YtodihpaabkplhaaDoorSho
import Derived.Test.YtodihpaabkplhaaDoorFix
import Derived.Test.YtodihpaabkplhaaDoorSet
import Derived.Test.YtodihpaabkplhaaDoorShf
import Derived.Test.YtodihpaabkplhaaDoorRou
import Derived.Laws.Externs
import Derived.Lib.AppendStr
import Derived.KernelRfl
import Derived.StillTailTactics
namespace Go.Proofs.YtodihpaabkplhaaDoor
open Go.RowKit

def eF (x : Nat) : Nat := x / 4503599627370496 % 2048
def m0F (x : Nat) : Nat := x % 4503599627370496
def negF (x : Nat) : Bool := (x : Int) / 9223372036854775808 != 0
def mantF (x : Nat) : Nat := if eF x = 0 then m0F x else m0F x + 4503599627370496
def expF (x : Nat) : Int := (if eF x = 0 then 1 else (eF x : Int)) + -1023

@[go_sem] theorem call_f64bits (args : Array Value) (w : World) : (callFunc 66 args).run Tryd.prog w = ((Extern.MathFloatBits.float64bits args).run Tryd.prog w).andThen fun v w' => .ok (.value v) w' :=
  run_callFunc_extern Tryd.func66 (by kernel_rfl) (by kernel_rfl) (by kernel_rfl) (by kernel_rfl) args w
@[go_sem] theorem f64bits_run (b : Nat) (w : World) : (Extern.MathFloatBits.float64bits #[.float .f64 b]).run Tryd.prog w = .ok (.int .u64 b) w := rfl

theorem bits_e (X : Nat) (h : X < 4096) : bits .and .i64 (X : Int) 2047 = ((X % 2048 : Nat) : Int) := by
  have h1 : (BitVec.ofInt 64 (X : Int)).toNat = X := by
    rw [BitVec.ofInt_natCast, BitVec.toNat_ofNat]; exact Nat.mod_eq_of_lt (by omega)
  show IntKind.i64.wrap ((BitVec.ofInt 64 (X : Int) &&& BitVec.ofInt 64 2047).toNat : Int) = _
  rw [BitVec.toNat_and, h1, show (BitVec.ofInt 64 2047).toNat = 2047 from rfl]
  have : X &&& 2047 = X % 2048 := Nat.and_two_pow_sub_one_eq_mod X 11
  rw [this, IntKind.wrap_i64]
  omega
theorem bits_m (x : Nat) (h : x < 18446744073709551616) : bits .and .u64 (x : Int) 4503599627370495 = ((x % 4503599627370496 : Nat) : Int) := by
  have h1 := bits_and_u64_nat x 4503599627370495 h (by omega)
  rw [show x &&& 4503599627370495 = x % 4503599627370496 from Nat.and_two_pow_sub_one_eq_mod x 52] at h1
  exact h1
theorem bits_o (x : Nat) (h : x < 4503599627370496) : bits .or .u64 (x : Int) 4503599627370496 = ((x + 4503599627370496 : Nat) : Int) := by
  have h1 := bits_or_u64_nat x 4503599627370496 (by omega) (by omega)
  rw [Nat.or_comm, show 4503599627370496 ||| x = 4503599627370496 + x from (Nat.two_pow_add_eq_or_of_lt (i := 52) h 1).symm, Nat.add_comm] at h1
  exact h1

set_option maxRecDepth 100000 in
set_option maxHeartbeats 1600000 in
theorem ftoa_zero (B x : Nat) (dst : Value) (prec : Int) (w : World) (hb : Bytes w B dst []) (hB : B ≤ w.heap.size) (hx : x < 18446744073709551616) (he : eF x = 0) (hm : m0F x = 0) (p0 : -1 ≤ prec) (p1 : prec ≤ 20) :
    Calls Tryd.prog 60 #[dst, .float .f64 x, .int .u8 102, .int .i64 prec] w fun e w' => ∃ v', e = .returned v' ∧ Bytes w' B v' (efgF (negF x) (fun _ => 0) 0 0 prec) ∧ Below B w w' := by
  have f1 : (x : Int) / 4503599627370496 = ((x / 4503599627370496 : Nat) : Int) := by omega
  obtain ⟨X, hX⟩ : ∃ X, x / 4503599627370496 = X := ⟨_, rfl⟩
  have hX4 : X < 4096 := by omega
  have f2 := bits_e X hX4
  have f3 := bits_m x hx
  have f4 : ((x : Int) / 9223372036854775808 != 0) = negF x := rfl
  unfold eF at he
  unfold m0F at hm
  rw [hX] at f1 he
  rw [he] at f2
  rw [hm] at f3
  obtain ⟨neg, hn⟩ : ∃ neg, negF x = neg := ⟨_, rfl⟩
  rw [hn] at f4 ⊢
  clear hn he hm hX
  go_enter Tryd.func60, Tryd.ntmps60
  go_wp2_with fail
  go_quiet (fail)
  have hb2 : Bytes (w.drewN nq) B dst [] := hb
  obtain ⟨W, hW⟩ : ∃ W, w.drewN nq = W := ⟨_, rfl⟩
  have hB2 : Below B w W := hW ▸ Below.drewN (Below.refl _ _) _
  rw [hW] at hb2 ⊢
  have hB3 : B ≤ W.heap.size := Nat.le_trans hB hB2.size
  clear hW hb hB
  go_wp2_with fail
  refine (efg_any B 0 0 0 0 109 (fun _ => 0) neg _ _ dst [] 0 prec W hb2 (by simp) (fun h => by omega) hB3 (by omega) (by omega) (by omega) (by omega) (by omega) p0 (by omega)).mono ?_
  rintro e w2 ⟨v', rfl, hb4, hg⟩
  go_wp2
  go_ret
  exact ⟨v', rfl, hb4, hB2.trans hg.below⟩

def lenF (x : Nat) : Nat := Lib.bitLen (mantF x)
def mmF (x : Nat) : Int := IntKind.u64.wrap ((mantF x : Int) * 2 ^ (64 - lenF x))
def xpF (x : Nat) : Int := expF x - ((64 - lenF x : Nat) : Int) - 52
def zeroB (_ : Nat) : UInt8 := 0

theorem fill_rep (n : Nat) (v : Value) (i : Nat) (hi : i < (Array.replicate n v).size) : (Array.replicate n v)[i]? = some v := by
  rw [Array.size_replicate] at hi
  rw [Array.getElem?_replicate, if_pos hi]

theorem mantF_lt (x : Nat) : mantF x < 9007199254740992 := by
  unfold mantF m0F
  split <;> omega
theorem lenF_facts (x : Nat) (hm : mantF x ≠ 0) : 1 ≤ lenF x ∧ lenF x ≤ 53 := by
  have h1 := mantF_lt x
  have h2 := Lib.bitLenAux_bounds 64 (mantF x) (by omega) hm
  refine ⟨h2.1, ?_⟩
  rcases Nat.lt_or_ge 53 (lenF x) with h | h
  · exfalso
    have h3 : 2 ^ 53 ≤ 2 ^ (lenF x - 1) := Nat.pow_le_pow_right (by decide) (by omega)
    have h4 : 2 ^ (lenF x - 1) ≤ mantF x := h2.2.1
    omega
  · exact h
theorem eF_lt (x : Nat) : eF x < 2048 := by unfold eF; omega
theorem expF_facts (x : Nat) (he : eF x ≠ 2047) : -1022 ≤ expF x ∧ expF x ≤ 1023 := by
  have := eF_lt x
  unfold expF
  split <;> omega
theorem xpF_facts (x : Nat) (he : eF x ≠ 2047) (hm : mantF x ≠ 0) : -1137 ≤ xpF x ∧ xpF x ≤ 960 := by
  have h1 := lenF_facts x hm
  have h2 := expF_facts x he
  unfold xpF
  omega
theorem u64_mmF (x : Nat) : U64 (mmF x) := u64_wrap _

theorem Bytes.lt {w : World} {B : Nat} {v : Value} {l : List UInt8} (h : Bytes w B v l) {c : Nat} (hc : v.ownBlock = some c) : c < w.heap.size := by
  rcases h.2 with ⟨e, _⟩ | ⟨g, cap, cur, e, _, hg, _⟩
  · rw [e] at hc; cases hc
  · rw [e] at hc
    have hgc : g = c := Option.some.inj hc
    subst hgc
    rcases Nat.lt_or_ge g w.heap.size with h' | h'
    · exact h'
    · simp [Array.getElem?_eq_none h'] at hg
theorem Bytes.below {w w' : World} {B C : Nat} {v : Value} {l : List UInt8} (h : Bytes w B v l) (hb : Below C w w') (hC : w.heap.size ≤ C) : Bytes w' B v l := by
  refine ⟨h.1, ?_⟩
  rcases h.2 with ⟨e, n⟩ | ⟨g, cap, cur, e, hBg, hg, h4⟩
  · exact Or.inl ⟨e, n⟩
  · have hlt : g < w.heap.size := h.lt (by rw [e]; rfl)
    refine Or.inr ⟨g, cap, cur, e, hBg, ?_, h4⟩
    rw [hb.block g (by omega)]
    exact hg
end Go.Proofs.YtodihpaabkplhaaDoor
