/-
  A body's code from one of its regions on. Of no program.
-/
import Derived.WalkKit
namespace Go.Proofs.Ybulkaxc.Cut2
open Go
def firstRegion : Code → Option Nat
  | .region id _ _ => some id
  | .seq a _ => firstRegion a
  | _ => none
/-- The code from region k on. -/
def tailAt (k : Nat) : Code → Option Code
  | .seq a b => if firstRegion a = some k then some (.seq a b) else match tailAt k b with
    | some c => some c
    | none => tailAt k a
  | .block _ c => tailAt k c
  | .scope c => tailAt k c
  | .loop c => tailAt k c
  | .region id o d => if id = k then some (.region id o d) else none
  | _ => none
def fst : Code → Code
  | .seq a _ => a
  | c => c
def snd : Code → Code
  | .seq _ b => b
  | _ => .skip
end Go.Proofs.Ybulkaxc.Cut2
