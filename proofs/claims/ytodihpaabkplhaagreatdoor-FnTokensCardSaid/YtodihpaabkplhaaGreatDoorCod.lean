/- A piece of a function's code, found by the number of the region at its head. -/
import Derived.Test.YtodihpaabkplhaaGreatDoorProg
import Derived.WalkKit
namespace Go.Proofs.YtodihpaabkplhaaGreatDoor

def headRegion : Code → Option Nat
  | .region k _ _ => some k
  | .seq a _ => headRegion a
  | .block _ c => headRegion c
  | .loop c => headRegion c
  | .scope c => headRegion c
  | _ => none
/-- The first sequence whose head is region n. -/
def seqAt (n : Nat) : Code → Option Code
  | .seq a b => if headRegion a = some n then some (.seq a b) else match seqAt n a with
    | some c => some c
    | none => seqAt n b
  | .block _ c => seqAt n c
  | .loop c => seqAt n c
  | .scope c => seqAt n c
  | .cond _ a b => match seqAt n a with
    | some c => some c
    | none => seqAt n b
  | _ => none
end Go.Proofs.YtodihpaabkplhaaGreatDoor
