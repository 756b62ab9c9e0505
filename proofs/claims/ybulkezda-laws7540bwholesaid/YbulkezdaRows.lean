/-
  No cell of these rows narrows 'for every input' (looked for: loops, veiled, ifaces, maps, wideKeys, modest, calm, conditions, laid).
  DERIVED. THE GIVEN ROWS OF THIS SEAT. 1 by the template 'for every input the law returns true; each argument reads behind the call as it read before'; 0 by the template 'total and deterministic' (their statements: YbulkezdaTotals.lean).
  GIVEN WITH THE SEED: the statements are not yours to turn. If you find one false, say at which input.
  Laid BY PROGRAM, IN A SANDBOX (cutbox-rows.mjs): the forced cells as the released guide's own fill.sh prints them over the translation 29c85bac0a7f86e6… (all of the seat's roots in one cut). By AI agents, Wed Nov 11 2026. No macro, syntax, notation, axiom, sorry.
-/
import Derived.Test.YbulkezdaChecked
import GoSem.Claim
import GoSem.ClaimJoined
import GoSem.ClaimMapViews
import Derived.JoinedTies
import Derived.KernelRfl
namespace Go.Proofs.Ybulkezda
/- THE CELL 'sum', in the pinned program and in every row, IS THE sha256 OF THE DUMP (.gsa) THAT YbulkezdaProg.lean LOADS. Nothing in Lean hashes anything: it is a label: what it is worth is what the hold of that sum in a sandbox is worth. -/
noncomputable def Yba.pinned : Pinned := { name := "ybulkezda", sum := "29c85bac0a7f86e683b347ef56caff113584d5bae85ce6c9a07143531527565a", checked := Yba.checked }
namespace Rows
def none {H : Type} : Left H := { results := [], args := [] }

/-- 'chain.LawS7540BWhole': WHATEVER THE INPUT: true; the input reads as it did. -/
def lawS7540BWholeSpec : ChangeSpec := { name := "lawS7540BWhole", fn := fun _ => fun
  | [d] => { results := [.lit (.bool true)], args := [d] }
  | _ => none }
def lawS7540BWholeRow : OpenClaim := { program := "ybulkezda", sum := "29c85bac0a7f86e683b347ef56caff113584d5bae85ce6c9a07143531527565a", func := "example.com/allotment/allotment/chain.LawS7540BWhole", spec := "lawS7540BWhole", apart := false }
def LawS7540BWholeSaid : Prop := lawS7540BWholeRow.holds Yba.pinned (OpenSpec.ofChange lawS7540BWholeSpec)

/-- ITS FALSE NEIGHBOUR: 'it returns false'. Refute it at one input. -/
def lawS7540BWholeWrong : ChangeSpec := { name := "lawS7540BWhole", fn := fun _ => fun
  | [d] => { results := [.lit (.bool false)], args := [d] }
  | _ => none }
def LawS7540BWholeWrongFalsely : Prop := lawS7540BWholeRow.holds Yba.pinned (OpenSpec.ofChange lawS7540BWholeWrong)

end Rows
end Go.Proofs.Ybulkezda
