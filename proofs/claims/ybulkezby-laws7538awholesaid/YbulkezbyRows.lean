/-
  No cell of these rows narrows 'for every input' (looked for: loops, veiled, ifaces, maps, wideKeys, modest, calm, conditions, laid).
  DERIVED. THE GIVEN ROWS OF THIS SEAT. 1 by the template 'for every input the law returns true; each argument reads behind the call as it read before'; 0 by the template 'total and deterministic' (their statements: YbulkezbyTotals.lean).
  GIVEN WITH THE SEED: the statements are not yours to turn. If you find one false, say at which input.
  Laid BY PROGRAM, IN A SANDBOX (cutbox-rows.mjs): the forced cells as the released guide's own fill.sh prints them over the translation 3ba5c35a1dfd64db… (all of the seat's roots in one cut). By AI agents, Wed Nov 11 2026. No macro, syntax, notation, axiom, sorry.
-/
import Derived.Test.YbulkezbyChecked
import GoSem.Claim
import GoSem.ClaimJoined
import GoSem.ClaimMapViews
import Derived.JoinedTies
import Derived.KernelRfl
namespace Go.Proofs.Ybulkezby
/- THE CELL 'sum', in the pinned program and in every row, IS THE sha256 OF THE DUMP (.gsa) THAT YbulkezbyProg.lean LOADS. Nothing in Lean hashes anything: it is a label: what it is worth is what the hold of that sum in a sandbox is worth. -/
noncomputable def Yba.pinned : Pinned := { name := "ybulkezby", sum := "3ba5c35a1dfd64db8eec4b5b70408513fd4cf5f38fa779ba7ac9d4bb0da360b9", checked := Yba.checked }
namespace Rows
def none {H : Type} : Left H := { results := [], args := [] }

/-- 'hlc.LawS7538AWhole': WHATEVER THE INPUT: true; the input reads as it did. -/
def lawS7538AWholeSpec : ChangeSpec := { name := "lawS7538AWhole", fn := fun _ => fun
  | [d1, d2, d3] => { results := [.lit (.bool true)], args := [d1, d2, d3] }
  | _ => none }
def lawS7538AWholeRow : OpenClaim := { program := "ybulkezby", sum := "3ba5c35a1dfd64db8eec4b5b70408513fd4cf5f38fa779ba7ac9d4bb0da360b9", func := "example.com/tricausal/tricausal/hlc.LawS7538AWhole", spec := "lawS7538AWhole", apart := false }
def LawS7538AWholeSaid : Prop := lawS7538AWholeRow.holds Yba.pinned (OpenSpec.ofChange lawS7538AWholeSpec)

/-- ITS FALSE NEIGHBOUR: 'it returns false'. Refute it at one input. -/
def lawS7538AWholeWrong : ChangeSpec := { name := "lawS7538AWhole", fn := fun _ => fun
  | [d1, d2, d3] => { results := [.lit (.bool false)], args := [d1, d2, d3] }
  | _ => none }
def LawS7538AWholeWrongFalsely : Prop := lawS7538AWholeRow.holds Yba.pinned (OpenSpec.ofChange lawS7538AWholeWrong)

end Rows
end Go.Proofs.Ybulkezby
