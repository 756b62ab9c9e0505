/-
  THE LAW's BODY, CUT AT A REGION: so that her walk can be proved in several declarations.
-/
import Derived.Test.YbulkezdaDoorRows
namespace Go.Proofs.YbulkezdaDoor

def headNo : Code → Option Nat
  | .region k _ _ => some k
  | .seq a _ => headNo a
  | _ => none
/-- What is left of a body from region k on. -/
def tailAt (k : Nat) : Code → Option Code
  | .seq a b => if headNo a = some k then some (.seq a b) else match tailAt k a with
    | some c => some c
    | none => tailAt k b
  | .block _ c => tailAt k c
  | .scope c => tailAt k c
  | .region j ops d => if j = k then some (.region j ops d) else none
  | _ => none
end Go.Proofs.YbulkezdaDoor
