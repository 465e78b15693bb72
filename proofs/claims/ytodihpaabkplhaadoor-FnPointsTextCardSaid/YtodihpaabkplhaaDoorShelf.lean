/- Contracts of the library, out of the kit's own theorems, at this translation's numbers: Builder.String, utf8.AppendRune, internal/strconv.formatBase10, bits.Len64. -/
import Derived.Shelf.Strings.Builder1
import Derived.Shelf.Utf8.AppendRunePlain
import Derived.Shelf.Strconv.Itoa2
import Derived.Shelf.Strconv.Itoa1
import Derived.Test.YtodihpaabkplhaaDoorProg
namespace Go.Proofs.YtodihpaabkplhaaDoor
open Go.Shelf
def lays169_ren : Go.Shelf.Ren := ⟨fun | 169 => 48 | n => n, fun | 70 => 69 | 9 => 9 | 0 => 0 | 72 => 72 | 37 => 70 | 127 => 94 | 3 => 3 | 5 => 5 | n => n, fun | n => n⟩
theorem lays169 : Go.Proofs.Lays.n169 Tryd.prog lays169_ren := {
  mixed := by kernel_rfl
  f169 := Tryd.func48.trans (congrArg some (by kernel_rfl))
  t0 := Tryd.underlying0
  a0 := Tryd.isAgg0
  z0 := Tryd.sizeOf0
  v0 := Tryd.zeroValue0
  t3 := Tryd.underlying3
  a3 := Tryd.isAgg3
  z3 := Tryd.sizeOf3
  v3 := Tryd.zeroValue3
  t9 := Tryd.underlying9
  a9 := Tryd.isAgg9
  z9 := Tryd.sizeOf9
  v9 := Tryd.zeroValue9
  t37 := Tryd.underlying70
  a37 := Tryd.isAgg70
  z37 := Tryd.sizeOf70
  v37 := Tryd.zeroValue70
  t70 := Tryd.underlying69
  a70 := Tryd.isAgg69
  z70 := Tryd.sizeOf69
  v70 := Tryd.zeroValue69
  t72 := Tryd.underlying72
  a72 := Tryd.isAgg72
  z72 := Tryd.sizeOf72
  v72 := Tryd.zeroValue72
  t127 := Tryd.underlying94
  a127 := Tryd.isAgg94
  z127 := Tryd.sizeOf94
  v127 := Tryd.zeroValue94 }
theorem Builder_Extra_169 : Builder.Extra Tryd.prog lays169_ren := {
  sizeBuilder := by kernel_rfl
  liesBuilder := by kernel_rfl
  t5 := Tryd.underlying5
  a5 := Tryd.isAgg5
  z5 := Tryd.sizeOf5
  v5 := Tryd.zeroValue5
  infoByte := by kernel_rfl
  cellsByte := by kernel_rfl
  sizeByte := by kernel_rfl
  neB5 := by decide }
open Go.RowKit in
theorem Builder_String_any (B b : Nat) (l : List UInt8) (w : World) (h : Lib.IsBuilder 72 5 B b (Lib.byteCells l) w) (hBw : B ≤ w.heap.size) :
    Calls Tryd.prog 48 #[.pointer (some ⟨b, 0, none⟩)] w fun e w' => e = .returned (.string ⟨l.toArray⟩) ∧ Below B w w' := Any.Builder_String_any lays169 Builder_Extra_169 B b l w h hBw
def lays242_ren : Go.Shelf.Ren := ⟨fun | 242 => 81 | 278 => 104 | n => n, fun | 37 => 70 | 21 => 21 | 51 => 97 | 4 => 4 | 5 => 5 | 46 => 120 | n => n, fun | n => n⟩
theorem lays242 : Go.Proofs.Lays.n242 Tryd.prog lays242_ren := {
  mixed := by kernel_rfl
  f242 := Tryd.func81.trans (congrArg some (by kernel_rfl))
  f278 := Tryd.func104.trans (congrArg some (by kernel_rfl))
  t4 := Tryd.underlying4
  a4 := Tryd.isAgg4
  z4 := Tryd.sizeOf4
  v4 := Tryd.zeroValue4
  t5 := Tryd.underlying5
  a5 := Tryd.isAgg5
  z5 := Tryd.sizeOf5
  v5 := Tryd.zeroValue5
  t21 := Tryd.underlying21
  a21 := Tryd.isAgg21
  z21 := Tryd.sizeOf21
  v21 := Tryd.zeroValue21
  t37 := Tryd.underlying70
  a37 := Tryd.isAgg70
  z37 := Tryd.sizeOf70
  v37 := Tryd.zeroValue70
  t46 := Tryd.underlying120
  a46 := Tryd.isAgg120
  z46 := Tryd.sizeOf120
  v46 := Tryd.zeroValue120
  t51 := Tryd.underlying97
  a51 := Tryd.isAgg97
  z51 := Tryd.sizeOf97
  v51 := Tryd.zeroValue97 }
open Go.RowKit in
theorem utf8_AppendRune_plain (B : Nat) (v : Value) (n : Nat) (xs : List Value) (r : Int) (hr0 : -2147483648 ≤ r) (hr1 : r ≤ 2147483647) (w : World) (hown : w.ownsRow B 5 1 v n xs) (hlen : n + 4 ≤ 140737488355328) (hBw : B ≤ w.heap.size) :
    Calls Tryd.prog 81 #[v, .int .i32 r] w fun e w' => ∃ v', e = .returned v' ∧ w'.ownsRow B 5 1 v' (n + (Lib.runeCells r).length) (xs ++ Lib.runeCells r) ∧ ∃ o, (w.alloc o).grownBy w' v.ownBlock := Any.utf8_AppendRune_plain lays242 (by kernel_rfl) B v n xs r hr0 hr1 w hown hlen hBw
def lays129_ren : Go.Shelf.Ren := ⟨fun | 129 => 70 | n => n, fun | 53 => 96 | 3 => 3 | 4 => 4 | 46 => 120 | 5 => 5 | 9 => 9 | n => n, fun | n => n⟩
theorem lays129 : Go.Proofs.Lays.n129 Tryd.prog lays129_ren := {
  mixed := by kernel_rfl
  f129 := Tryd.func70.trans (congrArg some (by kernel_rfl))
  t3 := Tryd.underlying3
  a3 := Tryd.isAgg3
  z3 := Tryd.sizeOf3
  v3 := Tryd.zeroValue3
  t4 := Tryd.underlying4
  a4 := Tryd.isAgg4
  z4 := Tryd.sizeOf4
  v4 := Tryd.zeroValue4
  t5 := Tryd.underlying5
  a5 := Tryd.isAgg5
  z5 := Tryd.sizeOf5
  v5 := Tryd.zeroValue5
  t9 := Tryd.underlying9
  a9 := Tryd.isAgg9
  z9 := Tryd.sizeOf9
  v9 := Tryd.zeroValue9
  t46 := Tryd.underlying120
  a46 := Tryd.isAgg120
  z46 := Tryd.sizeOf120
  v46 := Tryd.zeroValue120
  t53 := Tryd.underlying96
  a53 := Tryd.isAgg96
  z53 := Tryd.sizeOf96
  v53 := Tryd.zeroValue96 }
theorem bits_Len64 (x : Int) (w : World) (h0 : 0 ≤ x) (h1 : x ≤ 18446744073709551615) :
    Calls Tryd.prog 70 #[.int .u64 x] w fun e w' => e = .returned (.int .i64 (Lib.bitLen x.toNat)) ∧ w' = w := Any.bits_Len64 lays129 x w h0 h1
def lays285_ren : Go.Shelf.Ren := ⟨fun | 285 => 93 | n => n, fun | 37 => 70 | 53 => 96 | 3 => 3 | 4 => 4 | 51 => 97 | 9 => 9 | 5 => 5 | 0 => 0 | n => n, fun | n => n⟩
theorem lays285 : Go.Proofs.Lays.n285 Tryd.prog lays285_ren := {
  mixed := by kernel_rfl
  f285 := Tryd.func93.trans (congrArg some (by kernel_rfl))
  t0 := Tryd.underlying0
  a0 := Tryd.isAgg0
  z0 := Tryd.sizeOf0
  v0 := Tryd.zeroValue0
  t3 := Tryd.underlying3
  a3 := Tryd.isAgg3
  z3 := Tryd.sizeOf3
  v3 := Tryd.zeroValue3
  t4 := Tryd.underlying4
  a4 := Tryd.isAgg4
  z4 := Tryd.sizeOf4
  v4 := Tryd.zeroValue4
  t5 := Tryd.underlying5
  a5 := Tryd.isAgg5
  z5 := Tryd.sizeOf5
  v5 := Tryd.zeroValue5
  t9 := Tryd.underlying9
  a9 := Tryd.isAgg9
  z9 := Tryd.sizeOf9
  v9 := Tryd.zeroValue9
  t37 := Tryd.underlying70
  a37 := Tryd.isAgg70
  z37 := Tryd.sizeOf70
  v37 := Tryd.zeroValue70
  t51 := Tryd.underlying97
  a51 := Tryd.isAgg97
  z51 := Tryd.sizeOf97
  v51 := Tryd.zeroValue97
  t53 := Tryd.underlying96
  a53 := Tryd.isAgg96
  z53 := Tryd.sizeOf96
  v53 := Tryd.zeroValue96 }
open Go.RowKit Go.Sort Go.Lib in
theorem internal_strconv_formatBase10 (blk off cap : Nat) (u : Nat) (d : Array UInt8) (w : World) (hH : Holds (fun (b : UInt8) => Value.int .u8 (b.toNat : Int)) w blk off d) (hu : u < 10 ^ d.size) (hu64 : u < 18446744073709551616) (hsz : d.size < 4611686018427387904) :
    Calls Tryd.prog 93 #[.slice (some ⟨blk, off, none⟩) d.size cap, .int .u64 u] w fun e w' =>
      e = .returned (.tuple #[]) ∧ ∃ (n v' : Nat) (dk : Array UInt8), w' = (putRow (fun (b : UInt8) => Value.int .u8 (b.toNat : Int)) w blk off dk).drewN n ∧ FmtInv d.size u 0 v' dk := Any.internal_strconv_formatBase10 lays285 blk off cap u d w hH hu hu64 hsz
end Go.Proofs.YtodihpaabkplhaaDoor
