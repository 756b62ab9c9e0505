/-
  No cell of these rows narrows 'for every input' (looked for: loops, veiled, ifaces, maps, wideKeys, modest, calm, conditions, laid).
  DERIVED. THE GIVEN ROWS OF THIS SEAT. 3 by the template 'for every input the law returns true; each argument reads behind the call as it read before'; 0 by the template 'total and deterministic' (their statements: YbulkezlcTotals.lean).
  GIVEN WITH THE SEED: the statements are not yours to turn. If you find one false, say at which input.
  Laid BY PROGRAM, IN A SANDBOX (cutbox-rows.mjs): the forced cells as the released guide's own fill.sh prints them over the translation c1c94a5d0b3bed30… (all of the seat's roots in one cut). By AI agents, Wed Nov 11 2026. No macro, syntax, notation, axiom, sorry.
-/
import Derived.Test.YbulkezlcChecked
import GoSem.Claim
import GoSem.ClaimJoined
import GoSem.ClaimMapViews
import Derived.JoinedTies
import Derived.KernelRfl
namespace Go.Proofs.Ybulkezlc
/- THE CELL 'sum', in the pinned program and in every row, IS THE sha256 OF THE DUMP (.gsa) THAT YbulkezlcProg.lean LOADS. Nothing in Lean hashes anything: it is a label: what it is worth is what the hold of that sum in a sandbox is worth. -/
noncomputable def Yba.pinned : Pinned := { name := "ybulkezlc", sum := "c1c94a5d0b3bed30161acee2913947edfd39b0ba152ebd34fd20e2f06ea40f7a", checked := Yba.checked }
namespace Rows
def none {H : Type} : Left H := { results := [], args := [] }

/-- 'certlattice.LawS7555AWhole': WHATEVER THE INPUT: true; the input reads as it did. -/
def lawS7555AWholeSpec : ChangeSpec := { name := "lawS7555AWhole", fn := fun _ => fun
  | [] => { results := [.lit (.bool true)], args := [] }
  | _ => none }
def lawS7555AWholeRow : OpenClaim := { program := "ybulkezlc", sum := "c1c94a5d0b3bed30161acee2913947edfd39b0ba152ebd34fd20e2f06ea40f7a", func := "example.com/certlattice/certlattice.LawS7555AWhole", spec := "lawS7555AWhole", plainKeys := false, apart := false }
def LawS7555AWholeSaid : Prop := lawS7555AWholeRow.holds Yba.pinned (OpenSpec.ofChange lawS7555AWholeSpec)

/-- ITS FALSE NEIGHBOUR: 'it returns false'. Refute it at one input. -/
def lawS7555AWholeWrong : ChangeSpec := { name := "lawS7555AWhole", fn := fun _ => fun
  | [] => { results := [.lit (.bool false)], args := [] }
  | _ => none }
def LawS7555AWholeWrongFalsely : Prop := lawS7555AWholeRow.holds Yba.pinned (OpenSpec.ofChange lawS7555AWholeWrong)

/-- 'certlattice.LawS7555AFresh': WHATEVER THE INPUT: true; the input reads as it did. -/
def lawS7555AFreshSpec : ChangeSpec := { name := "lawS7555AFresh", fn := fun _ => fun
  | [d1, d2] => { results := [.lit (.bool true)], args := [d1, d2] }
  | _ => none }
def lawS7555AFreshRow : OpenClaim := { program := "ybulkezlc", sum := "c1c94a5d0b3bed30161acee2913947edfd39b0ba152ebd34fd20e2f06ea40f7a", func := "example.com/certlattice/certlattice.LawS7555AFresh", spec := "lawS7555AFresh", plainKeys := false, apart := false }
def LawS7555AFreshSaid : Prop := lawS7555AFreshRow.holds Yba.pinned (OpenSpec.ofChange lawS7555AFreshSpec)

/-- ITS FALSE NEIGHBOUR: 'it returns false'. Refute it at one input. -/
def lawS7555AFreshWrong : ChangeSpec := { name := "lawS7555AFresh", fn := fun _ => fun
  | [d1, d2] => { results := [.lit (.bool false)], args := [d1, d2] }
  | _ => none }
def LawS7555AFreshWrongFalsely : Prop := lawS7555AFreshRow.holds Yba.pinned (OpenSpec.ofChange lawS7555AFreshWrong)

/-- 'certlattice.LawS7555CWhole': WHATEVER THE INPUT: true; the input reads as it did. -/
def lawS7555CWholeSpec : ChangeSpec := { name := "lawS7555CWhole", fn := fun _ => fun
  | [d1, d2, d3, d4] => { results := [.lit (.bool true)], args := [d1, d2, d3, d4] }
  | _ => none }
def lawS7555CWholeRow : OpenClaim := { program := "ybulkezlc", sum := "c1c94a5d0b3bed30161acee2913947edfd39b0ba152ebd34fd20e2f06ea40f7a", func := "example.com/certlattice/certlattice.LawS7555CWhole", spec := "lawS7555CWhole", plainKeys := false, apart := false }
def LawS7555CWholeSaid : Prop := lawS7555CWholeRow.holds Yba.pinned (OpenSpec.ofChange lawS7555CWholeSpec)

/-- ITS FALSE NEIGHBOUR: 'it returns false'. Refute it at one input. -/
def lawS7555CWholeWrong : ChangeSpec := { name := "lawS7555CWhole", fn := fun _ => fun
  | [d1, d2, d3, d4] => { results := [.lit (.bool false)], args := [d1, d2, d3, d4] }
  | _ => none }
def LawS7555CWholeWrongFalsely : Prop := lawS7555CWholeRow.holds Yba.pinned (OpenSpec.ofChange lawS7555CWholeWrong)

end Rows
end Go.Proofs.Ybulkezlc
