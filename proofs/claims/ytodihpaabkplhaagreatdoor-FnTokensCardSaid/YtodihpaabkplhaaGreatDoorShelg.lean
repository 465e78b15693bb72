/- Contracts of the library, out of the kit's own theorems: Builder.String of a builder that is written on, AppendRune. -/
import Derived.Test.YtodihpaabkplhaaGreatDoorShelf
import Derived.Shelf.Strings.BuilderF
import Derived.Shelf.Utf8.AppendRune
import Derived.Test.YtodihpaabkplhaaGreatDoorProg
namespace Go.Proofs.YtodihpaabkplhaaGreatDoor
open Go.Shelf
open Go.RowKit in
theorem Builder_String_any_f (B b : Nat) (l : List UInt8) (w : World) (h : Lib.IsBuilderF 97 5 B b (Lib.byteCells l) w) (hBw : B ≤ w.heap.size) :
    Calls Tryz.prog 47 #[.pointer (some ⟨b, 0, none⟩)] w fun e w' => e = .returned (.string ⟨l.toArray⟩) ∧ (Lib.IsBuilderF 97 5 B b (Lib.byteCells l) w' ∧ Below B w w') := Any.Builder_String_any_f lays169 Builder_Extra_169 B b l w h hBw
def lays242_ren : Go.Shelf.Ren := ⟨fun | 242 => 66 | 278 => 88 | n => n, fun | 37 => 37 | 21 => 21 | 51 => 112 | 4 => 4 | 5 => 5 | 46 => 109 | n => n, fun | n => n⟩
theorem lays242 : Go.Proofs.Lays.n242 Tryz.prog lays242_ren := {
  mixed := by kernel_rfl
  f242 := Tryz.func66.trans (congrArg some (by kernel_rfl))
  f278 := Tryz.func88.trans (congrArg some (by kernel_rfl))
  t4 := Tryz.underlying4
  a4 := Tryz.isAgg4
  z4 := Tryz.sizeOf4
  v4 := Tryz.zeroValue4
  t5 := Tryz.underlying5
  a5 := Tryz.isAgg5
  z5 := Tryz.sizeOf5
  v5 := Tryz.zeroValue5
  t21 := Tryz.underlying21
  a21 := Tryz.isAgg21
  z21 := Tryz.sizeOf21
  v21 := Tryz.zeroValue21
  t37 := Tryz.underlying37
  a37 := Tryz.isAgg37
  z37 := Tryz.sizeOf37
  v37 := Tryz.zeroValue37
  t46 := Tryz.underlying109
  a46 := Tryz.isAgg109
  z46 := Tryz.sizeOf109
  v46 := Tryz.zeroValue109
  t51 := Tryz.underlying112
  a51 := Tryz.isAgg112
  z51 := Tryz.sizeOf112
  v51 := Tryz.zeroValue112 }
open Go.RowKit in
theorem utf8_AppendRune_row (B : Nat) (v : Value) (n : Nat) (xs : List Value) (r : Int) (hr0 : -2147483648 ≤ r) (hr1 : r ≤ 2147483647) (w : World) (hown : w.ownsRowF B 5 1 v n xs) (hlen : n + 4 ≤ 140737488355328) (hBw : B ≤ w.heap.size) :
    Calls Tryz.prog 66 #[v, .int .i32 r] w fun e w' => ∃ v', e = .returned v' ∧ w'.ownsRowF B 5 1 v' (n + (Lib.runeCells r).length) (xs ++ Lib.runeCells r) ∧ ∃ o, (w.alloc o).grownBy w' v.ownBlock := Any.utf8_AppendRune_row lays242 (by kernel_rfl) B v n xs r hr0 hr1 w hown hlen hBw
end Go.Proofs.YtodihpaabkplhaaGreatDoor
