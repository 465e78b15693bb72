/- A world for the witness: the listed variables hold what the row's list says. -/
import Derived.Test.YtodihpaabkplhaaDoorRows
import Derived.WalkKit
import Derived.ProofKit
import Derived.OpenShut
import Derived.LaidMore
import Derived.Lay
import Derived.Deep.DeepHandedRow
namespace Go.Proofs.YtodihpaabkplhaaDoor
open Go.ChangeShapes Go.WideShapes Go.ChangeAt Go.RowKit

theorem own : ownKnob Tryd.prog.godebug = none := by kernel_rfl
theorem laidOut : laidOutB Tryd.prog = true := by kernel_rfl
noncomputable abbrev laidL : List (String × DataW Unit) := Rows.fnPlaceTextRow.laid
theorem laid_plain : (laidL.all fun x => x.2.handleName?.isNone) = true := by kernel_rfl
set_option maxRecDepth 100000 in
theorem wit_fits (os : Os) : (World.holding Tryd.prog os ⟨#[], #[], []⟩).layFits Tryd.prog laidL [] = true := by kernel_rfl
set_option maxRecDepth 100000 in
theorem wit_ifaces (os : Os) : (World.holding Tryd.prog os ⟨#[], #[], []⟩).layIfaces Tryd.prog laidL (World.laidAll Tryd.prog os laidL) = true := by kernel_rfl
theorem wit_met (os : Os) (args : Array Value) : laidMetH Tryd.prog laidL ((World.laidAll Tryd.prog os laidL).forCall (fun _ _ => 0) ⟨#[], args, []⟩).memory := by
  rw [MakeChecks.laidMetH_plain _ _ _ laid_plain]
  exact laidMet_laidAll args (wit_fits os) (wit_ifaces os)
set_option maxRecDepth 100000 in
theorem wit_shaped (os : Os) (args : Array Value) : ((World.laidAll Tryd.prog os laidL).forCall (fun _ _ => 0) ⟨#[], args, []⟩).Shaped Tryd.prog :=
  World.shaped_of_ZipB (by kernel_rfl) (by kernel_rfl)
end Go.Proofs.YtodihpaabkplhaaDoor
